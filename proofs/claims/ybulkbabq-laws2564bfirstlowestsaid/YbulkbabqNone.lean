import Derived.Test.YbulkbabqCopy
namespace Go.Proofs.Ybulkbabq
open Go.ChangeShapes Go.WideShapes Go.ChangeAt Go.RowKit Go.Maps
set_option linter.unusedVariables false
theorem info24 : (Yba.prog.info? 24).map (fun i => (i.zero, i.size, i.bytes)) = some (some (.agg #[.int .i64 0, .int .i64 0, .int .i64 0, .int .i64 0, .int .i64 0]), 5, 40) := by kernel_rfl

set_option maxHeartbeats 2000000 in
set_option maxRecDepth 100000 in
theorem none_any (a : Option Addr) (n c : Nat) (F T C E S : Nat → Int) (w : World) (hn : n ≤ 256) (hn0 : 0 < n) (hs : Came w a n F T C E S) (rF : Rng n F) (rT : Rng n T) (rC : Rng n C) (rE : Rng n E) (rS : Rng n S) :
    Calls Yba.prog 4 #[.slice a n c] w fun en w' => en = .returned (.bool true) ∧ Below w.heap.size w w' := by
  have d0 : decide ((256 : Int) < (n : Int)) = false := by simp; omega
  obtain ⟨i0, hi0, hz0, hz1, hz2⟩ := info_parts info24
  have HS := hide hs
  clear hs
  go_enter Yba.func4, Yba.ntmps4
  go_wp2_with (at_make; go_must (refine wpList_make_full _ rfl _ _ 22 rfl w.heap.size 24 i0 _ 5 Yba.underlying22 hi0 hz0 hz1 _ _ _ _ n rfl rfl rfl rfl ?q1 ?q2 ?q3 ?_))
  case q1 => rw [hz2]; omega
  case q2 => unfold maxLen; omega
  case q3 => exact Nat.le_refl _
  intro w1 hown hgrow
  have hb1 : Below w.heap.size w w1 := (Below.refl _ w).grown hgrow (Nat.le_refl _) (by intro k hk; cases hk)
  have hG := (hown.lt w.heap.size rfl).2
  obtain ⟨w2, hrun, hp2, hb2⟩ := copy_pairs a n c w.heap.size F T C E S w1 (HS.out.later hb1 (Nat.le_refl _)) hG (fun o ho => by rw [hown.cellAt o (by omega), List.getElem?_eq_getElem (by rw [hown.1]; omega)]; rfl) (fun o => hown.frozenAt o)
  have HB2 : Hid (Below w.heap.size w w2) := hb1.trans hb2
  have HP2 := hide hp2
  clear hown hgrow hb1 hb2 hp2 hi0 hz0 hz1 hz2 hG
  go_wp2_with fail
  clear hrun
  refine (tightest_any w.heap.size n n F T C E S w2 hn HP2.out rF rT rC rE rS).mono ?_
  rintro en w3 ⟨v, rfl, hrow, hb3⟩
  have HB3 : Hid (Below w.heap.size w w3) := HB2.out.trans (hb3.mono HB2.out.size)
  have HP : Hid (Prs w3 w.heap.size n F T C E S) := HP2.out.later hb3 HP2.out.lt
  have hgood := kept_good F T C E S n
  have hlt := keptOf_lt (key := ky F T) (tg := tgt C E S) n
  have hlen := keptOf_len (key := ky F T) (tg := tgt C E S) n
  generalize keptOf (ky F T) (tgt C E S) n = L at *
  have hL0 : 0 < L.length := by
    obtain ⟨j, hj, _⟩ := hgood.all 0 hn0
    exact List.length_pos_of_mem hj
  obtain ⟨ao, cp, rfl⟩ := owns_isSlice hrow
  obtain ⟨g, rfl, _, hg⟩ := owns_pos hrow hL0
  have hcell : ∀ j, j < L.length → w3.cell? ⟨g, j, none⟩ = some (.int .i64 ((L.getD j 0 : Nat) : Int)) := fun j hj => by
    rw [hrow.cellAt j (by omega)]
    simp [VS, List.getD, hj]
  have hmem : ∀ j, j < L.length → L.getD j 0 ∈ L := fun j hj => by simp only [List.getD, List.getElem?_eq_getElem hj, Option.getD_some]; exact List.getElem_mem hj
  have hne : ∀ j k, j < k → k < L.length → decide ((F (L.getD k 0), T (L.getD k 0)) = (F (L.getD j 0), T (L.getD j 0))) = false := fun j k hj hk => by
    have := List.pairwise_iff_getElem.1 hgood.once j k (by omega) hk hj
    have e1 : L.getD j 0 = L[j] := by simp [List.getD, show j < L.length by omega]
    have e2 : L.getD k 0 = L[k] := by simp [List.getD, hk]
    rw [e1, e2]
    exact decide_eq_false (fun e => this e.symm)
  have hGlt : w.heap.size < w3.heap.size := HP.out.lt
  have HC := hide (And.intro hcell (And.intro hmem (And.intro hne (And.intro hgood hlt))))
  clear hcell hmem hne hgood hlt hrow hb3 HP2 HB2
  generalize hGG : w.heap.size = G at *
  have HGG := hide hGG
  clear hGG
  generalize hm : L.length = m at *
  have HLM := hide hm
  clear hm
  go_wp2_with fail
  go_loopw [6] (fun t wr => ∃ k : Nat, k ≤ m ∧ t = .int .i64 k ∧ Below w3.heap.size w3 wr) (fun t _ => m - (intOf t).toNat)
  case atStart => exact ⟨0, Nat.zero_le _, rfl, Below.refl _ _⟩
  case round =>
    obtain ⟨k, hk, rfl, hB⟩ := hrel
    by_cases hkm : k < m
    · have ck : wr.cell? ⟨g, k, none⟩ = some (.int .i64 ((L.getD k 0 : Nat) : Int)) := (hB.cell (p := ⟨g, k, none⟩) hg).trans (HC.out.1 k hkm)
      have hqn := HC.out.2.2.2.2 _ (HC.out.2.1 k hkm)
      generalize hq : L.getD k 0 = q at *
      have HQ := hide hq
      clear hq
      have d1 : decide ((q : Int) < 0) = false := by simp
      have d2 : decide ((n : Int) ≤ (q : Int)) = false := by simp; omega
      have d3 : decide (n ≤ q) = false := by simp; omega
      have HB := hide hB
      clear hB
      go_wp2_with fail
      go_loopw [7] (fun t wr => ∃ j : Nat, j ≤ k ∧ t = .int .i64 j ∧ Below w3.heap.size w3 wr) (fun t _ => k - (intOf t).toNat)
      case atStart => exact ⟨0, Nat.zero_le _, rfl, HB.out⟩
      case round =>
        clear ck
        obtain ⟨j, hj, rfl, hB⟩ := hrel
        by_cases hjk : j < k
        · have hpn := HC.out.2.2.2.2 _ (HC.out.2.1 j (by omega))
          have hx := HC.out.1 j (by omega)
          have hy := HC.out.1 k hkm
          have hne := HC.out.2.2.1 j k hjk hkm
          rw [HQ.out] at hy hne
          generalize hp : L.getD j 0 = p at *
          have HPP := hide hp
          clear hp
          have y1 := hg
          have y2 := hGlt
          have c0 : wr.cell? ⟨g, k, none⟩ = some (.int .i64 (q : Nat)) := (hB.cell (p := ⟨g, k, none⟩) y1).trans (hy)
          have c1 : wr.cell? ⟨G, q * 5, none⟩ = some (.int .i64 (F q)) := (hB.cell (p := ⟨G, q * 5, none⟩) y2).trans (HP.out.f q hqn)
          have c2 : wr.cell? ⟨G, q * 5 + 1, none⟩ = some (.int .i64 (T q)) := (hB.cell (p := ⟨G, q * 5 + 1, none⟩) y2).trans (HP.out.t q hqn)
          have c3 : wr.cell? ⟨G, q * 5 + 2, none⟩ = some (.int .i64 (C q)) := (hB.cell (p := ⟨G, q * 5 + 2, none⟩) y2).trans (HP.out.c q hqn)
          have c4 : wr.cell? ⟨G, q * 5 + 3, none⟩ = some (.int .i64 (E q)) := (hB.cell (p := ⟨G, q * 5 + 3, none⟩) y2).trans (HP.out.e q hqn)
          have c5 : wr.cell? ⟨G, q * 5 + 4, none⟩ = some (.int .i64 (S q)) := (hB.cell (p := ⟨G, q * 5 + 4, none⟩) y2).trans (HP.out.s q hqn)
          have c6 : wr.cell? ⟨g, j, none⟩ = some (.int .i64 (p : Nat)) := (hB.cell (p := ⟨g, j, none⟩) y1).trans (hx)
          have c7 : wr.cell? ⟨G, p * 5, none⟩ = some (.int .i64 (F p)) := (hB.cell (p := ⟨G, p * 5, none⟩) y2).trans (HP.out.f p hpn)
          have c8 : wr.cell? ⟨G, p * 5 + 1, none⟩ = some (.int .i64 (T p)) := (hB.cell (p := ⟨G, p * 5 + 1, none⟩) y2).trans (HP.out.t p hpn)
          have c9 : wr.cell? ⟨G, p * 5 + 2, none⟩ = some (.int .i64 (C p)) := (hB.cell (p := ⟨G, p * 5 + 2, none⟩) y2).trans (HP.out.c p hpn)
          have c10 : wr.cell? ⟨G, p * 5 + 3, none⟩ = some (.int .i64 (E p)) := (hB.cell (p := ⟨G, p * 5 + 3, none⟩) y2).trans (HP.out.e p hpn)
          have c11 : wr.cell? ⟨G, p * 5 + 4, none⟩ = some (.int .i64 (S p)) := (hB.cell (p := ⟨G, p * 5 + 4, none⟩) y2).trans (HP.out.s p hpn)
          have hjm : j < m := by omega
          have HB' := hide hB
          have y1 : g < wr.heap.size := Nat.lt_of_lt_of_le hg hB.size
          have y2 : G < wr.heap.size := Nat.lt_of_lt_of_le hGlt hB.size
          have HN := hide hne
          clear hB hx hy hne
          go_wp2_with fail
          go_region_held3 (fun w' => (w'.cell? ⟨g, k, none⟩ = some (.int .i64 (q : Nat)) ∧ w'.cell? ⟨G, q * 5, none⟩ = some (.int .i64 (F q)) ∧ w'.cell? ⟨G, q * 5 + 1, none⟩ = some (.int .i64 (T q)) ∧ w'.cell? ⟨G, q * 5 + 2, none⟩ = some (.int .i64 (C q)) ∧ w'.cell? ⟨G, q * 5 + 3, none⟩ = some (.int .i64 (E q)) ∧ w'.cell? ⟨G, q * 5 + 4, none⟩ = some (.int .i64 (S q)) ∧ w'.cell? ⟨g, j, none⟩ = some (.int .i64 (p : Nat)) ∧ w'.cell? ⟨G, p * 5, none⟩ = some (.int .i64 (F p)) ∧ w'.cell? ⟨G, p * 5 + 1, none⟩ = some (.int .i64 (T p)) ∧ w'.cell? ⟨G, p * 5 + 2, none⟩ = some (.int .i64 (C p)) ∧ w'.cell? ⟨G, p * 5 + 3, none⟩ = some (.int .i64 (E p)) ∧ w'.cell? ⟨G, p * 5 + 4, none⟩ = some (.int .i64 (S p))))
            (first | assumption | (simp [go_sem, *]; done))
            (first
              | (go_at_call 6; refine (same_of false (F q) (T q) (C q) (E q) (S q) (F p) (T p) (C p) (E p) (S p) _ HN.out).mono ?_; rintro en wa ⟨rfl, ba⟩; have fa : (wa.cell? ⟨g, k, none⟩ = some (.int .i64 (q : Nat)) ∧ wa.cell? ⟨G, q * 5, none⟩ = some (.int .i64 (F q)) ∧ wa.cell? ⟨G, q * 5 + 1, none⟩ = some (.int .i64 (T q)) ∧ wa.cell? ⟨G, q * 5 + 2, none⟩ = some (.int .i64 (C q)) ∧ wa.cell? ⟨G, q * 5 + 3, none⟩ = some (.int .i64 (E q)) ∧ wa.cell? ⟨G, q * 5 + 4, none⟩ = some (.int .i64 (S q)) ∧ wa.cell? ⟨g, j, none⟩ = some (.int .i64 (p : Nat)) ∧ wa.cell? ⟨G, p * 5, none⟩ = some (.int .i64 (F p)) ∧ wa.cell? ⟨G, p * 5 + 1, none⟩ = some (.int .i64 (T p)) ∧ wa.cell? ⟨G, p * 5 + 2, none⟩ = some (.int .i64 (C p)) ∧ wa.cell? ⟨G, p * 5 + 3, none⟩ = some (.int .i64 (E p)) ∧ wa.cell? ⟨G, p * 5 + 4, none⟩ = some (.int .i64 (S p))) := ⟨(ba.cell (p := ⟨g, k, none⟩) y1).trans c0, (ba.cell (p := ⟨G, q * 5, none⟩) y2).trans c1, (ba.cell (p := ⟨G, q * 5 + 1, none⟩) y2).trans c2, (ba.cell (p := ⟨G, q * 5 + 2, none⟩) y2).trans c3, (ba.cell (p := ⟨G, q * 5 + 3, none⟩) y2).trans c4, (ba.cell (p := ⟨G, q * 5 + 4, none⟩) y2).trans c5, (ba.cell (p := ⟨g, j, none⟩) y1).trans c6, (ba.cell (p := ⟨G, p * 5, none⟩) y2).trans c7, (ba.cell (p := ⟨G, p * 5 + 1, none⟩) y2).trans c8, (ba.cell (p := ⟨G, p * 5 + 2, none⟩) y2).trans c9, (ba.cell (p := ⟨G, p * 5 + 3, none⟩) y2).trans c10, (ba.cell (p := ⟨G, p * 5 + 4, none⟩) y2).trans c11⟩))
          have HB3' : Hid (Below w3.heap.size w3 wa) := HB'.out.trans ((bel_undrew ba).mono HB'.out.size)
          clear fa ba c0 c1 c2 c3 c4 c5 c6 c7 c8 c9 c10 c11
          go_wp2
          go_roundw
          case rel => exact ⟨j + 1, by omega, by go_num, HB3'.out⟩
          case measure => simp [intOf]; omega
        · have hjk' : j = k := by omega
          subst hjk'
          have HB' := hide hB
          clear hB
          go_wp2
          go_roundw
          case rel => exact ⟨j + 1, by omega, by go_num, HB'.out⟩
          case measure => simp [intOf]; omega
    · have hkm' : m = k := by omega
      subst hkm'
      have HB := hide hB
      clear hB hkm hk
      go_wp2_with fail
      go_loopw [8] (fun t wr => ∃ i : Nat, i ≤ n ∧ t = .int .i64 i ∧ Below w3.heap.size w3 wr) (fun t _ => n - (intOf t).toNat)
      case atStart => exact ⟨0, Nat.zero_le _, rfl, HB.out⟩
      case round =>
        clear HB
        obtain ⟨i, hi, rfl, hB⟩ := hrel
        by_cases hin : i < n
        · have HB := hide hB
          clear hB
          go_wp2_with fail
          go_loopw [9, 10] (fun f t wr => ∃ j : Nat, j ≤ m ∧ f = .int .i64 (-1) ∧ t = .int .i64 j ∧ Below w3.heap.size w3 wr ∧ Hid (∀ j', j' < j → decide ((F (L.getD j' 0), T (L.getD j' 0)) = (F i, T i)) = false)) (fun _ t _ => m - (intOf t).toNat)
          case atStart => exact ⟨0, Nat.zero_le _, rfl, rfl, HB.out, fun j' h => by omega⟩
          case round =>
            clear HB
            obtain ⟨j, hj, rfl, rfl, hB, HZ⟩ := hrel
            by_cases hjm : j < m
            · have hqn := HC.out.2.2.2.2 _ (HC.out.2.1 j hjm)
              have hx := HC.out.1 j hjm
              have hmq := HC.out.2.1 j hjm
              have hlast : ∀ r, decide ((F (L.getD j 0), T (L.getD j 0)) = (F i, T i)) = r → r = false → ∀ j', j' < j + 1 → decide ((F (L.getD j' 0), T (L.getD j' 0)) = (F i, T i)) = false := fun r h1 h2 j' h3 => by
                subst h2
                by_cases h4 : j' = j
                · subst h4; exact h1
                · exact HZ.out j' (by omega)
              have HLA := hide hlast
              clear hlast
              generalize hq : L.getD j 0 = q at *
              have HQ := hide (And.intro hq hmq)
              clear hq hmq
              have y1 := hg
              have y2 := hGlt
              have c0 : wr.cell? ⟨g, j, none⟩ = some (.int .i64 (q : Nat)) := (hB.cell (p := ⟨g, j, none⟩) y1).trans (hx)
              have c1 : wr.cell? ⟨G, q * 5, none⟩ = some (.int .i64 (F q)) := (hB.cell (p := ⟨G, q * 5, none⟩) y2).trans (HP.out.f q hqn)
              have c2 : wr.cell? ⟨G, q * 5 + 1, none⟩ = some (.int .i64 (T q)) := (hB.cell (p := ⟨G, q * 5 + 1, none⟩) y2).trans (HP.out.t q hqn)
              have c3 : wr.cell? ⟨G, q * 5 + 2, none⟩ = some (.int .i64 (C q)) := (hB.cell (p := ⟨G, q * 5 + 2, none⟩) y2).trans (HP.out.c q hqn)
              have c4 : wr.cell? ⟨G, q * 5 + 3, none⟩ = some (.int .i64 (E q)) := (hB.cell (p := ⟨G, q * 5 + 3, none⟩) y2).trans (HP.out.e q hqn)
              have c5 : wr.cell? ⟨G, q * 5 + 4, none⟩ = some (.int .i64 (S q)) := (hB.cell (p := ⟨G, q * 5 + 4, none⟩) y2).trans (HP.out.s q hqn)
              have c6 : wr.cell? ⟨G, i * 5, none⟩ = some (.int .i64 (F i)) := (hB.cell (p := ⟨G, i * 5, none⟩) y2).trans (HP.out.f i hin)
              have c7 : wr.cell? ⟨G, i * 5 + 1, none⟩ = some (.int .i64 (T i)) := (hB.cell (p := ⟨G, i * 5 + 1, none⟩) y2).trans (HP.out.t i hin)
              have c8 : wr.cell? ⟨G, i * 5 + 2, none⟩ = some (.int .i64 (C i)) := (hB.cell (p := ⟨G, i * 5 + 2, none⟩) y2).trans (HP.out.c i hin)
              have c9 : wr.cell? ⟨G, i * 5 + 3, none⟩ = some (.int .i64 (E i)) := (hB.cell (p := ⟨G, i * 5 + 3, none⟩) y2).trans (HP.out.e i hin)
              have c10 : wr.cell? ⟨G, i * 5 + 4, none⟩ = some (.int .i64 (S i)) := (hB.cell (p := ⟨G, i * 5 + 4, none⟩) y2).trans (HP.out.s i hin)
              have HB := hide hB
              have y1 : g < wr.heap.size := Nat.lt_of_lt_of_le hg hB.size
              have y2 : G < wr.heap.size := Nat.lt_of_lt_of_le hGlt hB.size
              clear hB hx
              cases hd : decide ((F q, T q) = (F i, T i)) with
              | false =>
                have HN := hide hd
                clear hd
                go_wp2_with fail
                go_region_held3 (fun w' => (w'.cell? ⟨g, j, none⟩ = some (.int .i64 (q : Nat)) ∧ w'.cell? ⟨G, q * 5, none⟩ = some (.int .i64 (F q)) ∧ w'.cell? ⟨G, q * 5 + 1, none⟩ = some (.int .i64 (T q)) ∧ w'.cell? ⟨G, q * 5 + 2, none⟩ = some (.int .i64 (C q)) ∧ w'.cell? ⟨G, q * 5 + 3, none⟩ = some (.int .i64 (E q)) ∧ w'.cell? ⟨G, q * 5 + 4, none⟩ = some (.int .i64 (S q)) ∧ w'.cell? ⟨G, i * 5, none⟩ = some (.int .i64 (F i)) ∧ w'.cell? ⟨G, i * 5 + 1, none⟩ = some (.int .i64 (T i)) ∧ w'.cell? ⟨G, i * 5 + 2, none⟩ = some (.int .i64 (C i)) ∧ w'.cell? ⟨G, i * 5 + 3, none⟩ = some (.int .i64 (E i)) ∧ w'.cell? ⟨G, i * 5 + 4, none⟩ = some (.int .i64 (S i))))
                  (first | assumption | (simp [go_sem, *]; done))
                  (first
                    | (go_at_call 6; refine (same_of false (F q) (T q) (C q) (E q) (S q) (F i) (T i) (C i) (E i) (S i) _ HN.out).mono ?_; rintro en wa ⟨rfl, ba⟩; have fa : (wa.cell? ⟨g, j, none⟩ = some (.int .i64 (q : Nat)) ∧ wa.cell? ⟨G, q * 5, none⟩ = some (.int .i64 (F q)) ∧ wa.cell? ⟨G, q * 5 + 1, none⟩ = some (.int .i64 (T q)) ∧ wa.cell? ⟨G, q * 5 + 2, none⟩ = some (.int .i64 (C q)) ∧ wa.cell? ⟨G, q * 5 + 3, none⟩ = some (.int .i64 (E q)) ∧ wa.cell? ⟨G, q * 5 + 4, none⟩ = some (.int .i64 (S q)) ∧ wa.cell? ⟨G, i * 5, none⟩ = some (.int .i64 (F i)) ∧ wa.cell? ⟨G, i * 5 + 1, none⟩ = some (.int .i64 (T i)) ∧ wa.cell? ⟨G, i * 5 + 2, none⟩ = some (.int .i64 (C i)) ∧ wa.cell? ⟨G, i * 5 + 3, none⟩ = some (.int .i64 (E i)) ∧ wa.cell? ⟨G, i * 5 + 4, none⟩ = some (.int .i64 (S i))) := ⟨(ba.cell (p := ⟨g, j, none⟩) y1).trans c0, (ba.cell (p := ⟨G, q * 5, none⟩) y2).trans c1, (ba.cell (p := ⟨G, q * 5 + 1, none⟩) y2).trans c2, (ba.cell (p := ⟨G, q * 5 + 2, none⟩) y2).trans c3, (ba.cell (p := ⟨G, q * 5 + 3, none⟩) y2).trans c4, (ba.cell (p := ⟨G, q * 5 + 4, none⟩) y2).trans c5, (ba.cell (p := ⟨G, i * 5, none⟩) y2).trans c6, (ba.cell (p := ⟨G, i * 5 + 1, none⟩) y2).trans c7, (ba.cell (p := ⟨G, i * 5 + 2, none⟩) y2).trans c8, (ba.cell (p := ⟨G, i * 5 + 3, none⟩) y2).trans c9, (ba.cell (p := ⟨G, i * 5 + 4, none⟩) y2).trans c10⟩))
                have HB3' : Hid (Below w3.heap.size w3 wa) := HB.out.trans ((bel_undrew ba).mono HB.out.size)
                clear fa ba c0 c1 c2 c3 c4 c5 c6 c7 c8 c9 c10
                go_wp2
                go_roundw
                case rel => exact ⟨j + 1, by omega, rfl, by go_num, HB3'.out, HLA.out false HN.out rfl⟩
                case measure => simp [intOf]; omega
              | true =>
                have HN := hide hd
                clear hd
                have htt : tgt C E S i q = false := HC.out.2.2.2.1.least i hin q HQ.out.2 (by have := of_decide_eq_true HN.out; exact this)
                have HTT := hide htt
                clear htt
                have d1 : decide ((q : Int) < 0) = false := by simp
                go_wp2_with fail
                go_region_held3 (fun w' => (w'.cell? ⟨g, j, none⟩ = some (.int .i64 (q : Nat)) ∧ w'.cell? ⟨G, q * 5, none⟩ = some (.int .i64 (F q)) ∧ w'.cell? ⟨G, q * 5 + 1, none⟩ = some (.int .i64 (T q)) ∧ w'.cell? ⟨G, q * 5 + 2, none⟩ = some (.int .i64 (C q)) ∧ w'.cell? ⟨G, q * 5 + 3, none⟩ = some (.int .i64 (E q)) ∧ w'.cell? ⟨G, q * 5 + 4, none⟩ = some (.int .i64 (S q)) ∧ w'.cell? ⟨G, i * 5, none⟩ = some (.int .i64 (F i)) ∧ w'.cell? ⟨G, i * 5 + 1, none⟩ = some (.int .i64 (T i)) ∧ w'.cell? ⟨G, i * 5 + 2, none⟩ = some (.int .i64 (C i)) ∧ w'.cell? ⟨G, i * 5 + 3, none⟩ = some (.int .i64 (E i)) ∧ w'.cell? ⟨G, i * 5 + 4, none⟩ = some (.int .i64 (S i))))
                  (first | assumption | (simp [go_sem, *]; done))
                  (first
                    | (go_at_call 6; refine (same_of true (F q) (T q) (C q) (E q) (S q) (F i) (T i) (C i) (E i) (S i) _ HN.out).mono ?_; rintro en wa ⟨rfl, ba⟩; have fa : (wa.cell? ⟨g, j, none⟩ = some (.int .i64 (q : Nat)) ∧ wa.cell? ⟨G, q * 5, none⟩ = some (.int .i64 (F q)) ∧ wa.cell? ⟨G, q * 5 + 1, none⟩ = some (.int .i64 (T q)) ∧ wa.cell? ⟨G, q * 5 + 2, none⟩ = some (.int .i64 (C q)) ∧ wa.cell? ⟨G, q * 5 + 3, none⟩ = some (.int .i64 (E q)) ∧ wa.cell? ⟨G, q * 5 + 4, none⟩ = some (.int .i64 (S q)) ∧ wa.cell? ⟨G, i * 5, none⟩ = some (.int .i64 (F i)) ∧ wa.cell? ⟨G, i * 5 + 1, none⟩ = some (.int .i64 (T i)) ∧ wa.cell? ⟨G, i * 5 + 2, none⟩ = some (.int .i64 (C i)) ∧ wa.cell? ⟨G, i * 5 + 3, none⟩ = some (.int .i64 (E i)) ∧ wa.cell? ⟨G, i * 5 + 4, none⟩ = some (.int .i64 (S i))) := ⟨(ba.cell (p := ⟨g, j, none⟩) y1).trans c0, (ba.cell (p := ⟨G, q * 5, none⟩) y2).trans c1, (ba.cell (p := ⟨G, q * 5 + 1, none⟩) y2).trans c2, (ba.cell (p := ⟨G, q * 5 + 2, none⟩) y2).trans c3, (ba.cell (p := ⟨G, q * 5 + 3, none⟩) y2).trans c4, (ba.cell (p := ⟨G, q * 5 + 4, none⟩) y2).trans c5, (ba.cell (p := ⟨G, i * 5, none⟩) y2).trans c6, (ba.cell (p := ⟨G, i * 5 + 1, none⟩) y2).trans c7, (ba.cell (p := ⟨G, i * 5 + 2, none⟩) y2).trans c8, (ba.cell (p := ⟨G, i * 5 + 3, none⟩) y2).trans c9, (ba.cell (p := ⟨G, i * 5 + 4, none⟩) y2).trans c10⟩))
                have bw := bel_undrew ba
                have HB3' : Hid (Below w3.heap.size w3 wa) := HB.out.trans (bw.mono HB.out.size)
                obtain ⟨e0, e1, e2, e3, e4, e5, e6, e7, e8, e9, e10⟩ := fa
                have z1 : g < wa.heap.size := Nat.lt_of_lt_of_le y1 bw.size
                have z2 : G < wa.heap.size := Nat.lt_of_lt_of_le y2 bw.size
                clear ba bw c0 c1 c2 c3 c4 c5 c6 c7 c8 c9 c10 y1 y2 HB HLA
                go_wp2_with fail
                go_region_held3 (fun w' => (w'.cell? ⟨G, i * 5, none⟩ = some (.int .i64 (F i)) ∧ w'.cell? ⟨G, i * 5 + 1, none⟩ = some (.int .i64 (T i)) ∧ w'.cell? ⟨G, i * 5 + 2, none⟩ = some (.int .i64 (C i)) ∧ w'.cell? ⟨G, i * 5 + 3, none⟩ = some (.int .i64 (E i)) ∧ w'.cell? ⟨G, i * 5 + 4, none⟩ = some (.int .i64 (S i)) ∧ w'.cell? ⟨G, q * 5, none⟩ = some (.int .i64 (F q)) ∧ w'.cell? ⟨G, q * 5 + 1, none⟩ = some (.int .i64 (T q)) ∧ w'.cell? ⟨G, q * 5 + 2, none⟩ = some (.int .i64 (C q)) ∧ w'.cell? ⟨G, q * 5 + 3, none⟩ = some (.int .i64 (E q)) ∧ w'.cell? ⟨G, q * 5 + 4, none⟩ = some (.int .i64 (S q))))
                  (first | assumption | (simp [go_sem, *]; done))
                  (first
                    | (go_at_call 10; refine (tighter_of false F T C E S n i q _ rC rE rS hin hqn HTT.out).mono ?_; rintro en wb ⟨rfl, bb⟩; have fb : (wb.cell? ⟨G, i * 5, none⟩ = some (.int .i64 (F i)) ∧ wb.cell? ⟨G, i * 5 + 1, none⟩ = some (.int .i64 (T i)) ∧ wb.cell? ⟨G, i * 5 + 2, none⟩ = some (.int .i64 (C i)) ∧ wb.cell? ⟨G, i * 5 + 3, none⟩ = some (.int .i64 (E i)) ∧ wb.cell? ⟨G, i * 5 + 4, none⟩ = some (.int .i64 (S i)) ∧ wb.cell? ⟨G, q * 5, none⟩ = some (.int .i64 (F q)) ∧ wb.cell? ⟨G, q * 5 + 1, none⟩ = some (.int .i64 (T q)) ∧ wb.cell? ⟨G, q * 5 + 2, none⟩ = some (.int .i64 (C q)) ∧ wb.cell? ⟨G, q * 5 + 3, none⟩ = some (.int .i64 (E q)) ∧ wb.cell? ⟨G, q * 5 + 4, none⟩ = some (.int .i64 (S q))) := ⟨(bb.cell (p := ⟨G, i * 5, none⟩) z2).trans e6, (bb.cell (p := ⟨G, i * 5 + 1, none⟩) z2).trans e7, (bb.cell (p := ⟨G, i * 5 + 2, none⟩) z2).trans e8, (bb.cell (p := ⟨G, i * 5 + 3, none⟩) z2).trans e9, (bb.cell (p := ⟨G, i * 5 + 4, none⟩) z2).trans e10, (bb.cell (p := ⟨G, q * 5, none⟩) z2).trans e1, (bb.cell (p := ⟨G, q * 5 + 1, none⟩) z2).trans e2, (bb.cell (p := ⟨G, q * 5 + 2, none⟩) z2).trans e3, (bb.cell (p := ⟨G, q * 5 + 3, none⟩) z2).trans e4, (bb.cell (p := ⟨G, q * 5 + 4, none⟩) z2).trans e5⟩))
                have HB4 : Hid (Below w3.heap.size w3 wb) := HB3'.out.trans ((bel_undrew bb).mono HB3'.out.size)
                clear fb bb e0 e1 e2 e3 e4 e5 e6 e7 e8 e9 e10
                go_wp2
                go_roundw
                case rel => exact ⟨i + 1, by omega, by go_num, HB4.out⟩
                case measure => simp [intOf]; omega
            · exfalso
              obtain ⟨q, hq, e⟩ := HC.out.2.2.2.1.all i hin
              obtain ⟨j', hj', rfl⟩ := List.getElem_of_mem hq
              have hlm := HLM.out
              have := HZ.out j' (by omega)
              rw [show L.getD j' 0 = L[j'] by simp [List.getD, hj']] at this
              exact of_decide_eq_false this e
        · have HB := hide hB
          clear hB
          go_wp2
          go_ret
          refine ⟨rfl, ?_⟩
          rw [HGG.out]
          exact HB3.out.trans (HB.out.mono (Nat.le_of_lt hGlt))

set_option maxHeartbeats 2000000 in
set_option maxRecDepth 100000 in
theorem none_zero (a : Option Addr) (c : Nat) (w : World) :
    Calls Yba.prog 4 #[.slice a 0 c] w fun en w' => en = .returned (.bool true) ∧ Below w.heap.size w w' := by
  obtain ⟨i0, hi0, hz0, hz1, hz2⟩ := info_parts info24
  have F : Nat → Int := fun _ => 0
  have r0 : Rng 0 F := ⟨fun i hi => by omega, fun i hi => by omega⟩
  go_enter Yba.func4, Yba.ntmps4
  go_wp2_with (at_make; go_must (refine wpList_make_full _ rfl _ _ 22 rfl w.heap.size 24 i0 _ 5 Yba.underlying22 hi0 hz0 hz1 _ _ _ _ 0 rfl rfl rfl rfl ?q1 ?q2 ?q3 ?_))
  case q1 => rw [hz2]; omega
  case q2 => unfold maxLen; omega
  case q3 => exact Nat.le_refl _
  intro w1 hown hgrow
  have hb1 : Below w.heap.size w w1 := (Below.refl _ w).grown hgrow (Nat.le_refl _) (by intro k hk; cases hk)
  have hG := (hown.lt w.heap.size rfl).2
  obtain ⟨w2, hrun, hp2, hb2⟩ := copy_pairs a 0 c w.heap.size F F F F F w1 (fun j hj => by omega) hG (fun o ho => by omega) (fun o => hown.frozenAt o)
  have HB2 : Hid (Below w.heap.size w w2) := hb1.trans hb2
  have HP2 := hide hp2
  clear hown hgrow hb1 hb2 hp2 hi0 hz0 hz1 hz2 hG
  have hrun' : ∀ ty, (Builtin.copy_ #[22, 22] ty #[.slice (some ⟨w.heap.size, 0, none⟩) 0 0, .slice a 0 c]).run Yba.prog w1 = .ok (.int .i64 0) w2 := fun ty => by simpa [goInt] using hrun ty
  go_wp2_with fail
  clear hrun hrun'
  refine (tightest_any w.heap.size 0 0 F F F F F w2 (by omega) HP2.out r0 r0 r0 r0 r0).mono ?_
  rintro en w3 ⟨v, rfl, hrow, hb3⟩
  have HB3 : Hid (Below w.heap.size w w3) := HB2.out.trans (hb3.mono HB2.out.size)
  simp only [keptOf, List.length_nil] at hrow
  obtain ⟨ao, cp, rfl⟩ := owns_isSlice hrow
  clear hrow hb3 HB2 HP2
  go_wp2_with fail
  refine wp_loop_rounds 1 ?_
  rw [rounds_succ]
  go_wp2_with fail
  refine wp_loop_rounds 1 ?_
  rw [rounds_succ]
  go_wp2
  go_ret
  exact ⟨rfl, HB3.out⟩

theorem none_all (a : Option Addr) (n c : Nat) (F T C E S : Nat → Int) (w : World) (hs : Came w a n F T C E S) (rF : Rng n F) (rT : Rng n T) (rC : Rng n C) (rE : Rng n E) (rS : Rng n S) :
    Calls Yba.prog 4 #[.slice a n c] w fun en w' => en = .returned (.bool true) ∧ Below w.heap.size w w' := by
  by_cases h0 : n = 0
  · subst h0
    exact none_zero a c w
  by_cases h1 : n ≤ 256
  · exact none_any a n c F T C E S w h1 (by omega) hs rF rT rC rE rS
  have d0 : decide ((256 : Int) < (n : Int)) = true := by simp; omega
  clear hs rF rT rC rE rS
  go_enter Yba.func4, Yba.ntmps4
  go_wp2
  go_ret
  exact ⟨rfl, Below.refl _ _⟩
end Go.Proofs.Ybulkbabq
