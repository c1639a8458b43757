import Derived.Test.YbulkbabqSame
import Derived.Maps.AppendAt
import Derived.Deep.Onto
namespace Go.Proofs.Ybulkbabq
open Go.ChangeShapes Go.WideShapes Go.ChangeAt Go.RowKit Go.Maps
set_option linter.unusedVariables false

theorem bel_undrew {a b : World} (h : Below a.drew.heap.size a.drew b) : Below a.heap.size a b := ⟨h.os, h.tape, h.output, h.size, h.block⟩
theorem cell_lt {w : World} {b o : Nat} {v : Value} (h : w.cell? ⟨b, o, none⟩ = some v) : b < w.heap.size := by
  refine Classical.byContradiction fun hb => ?_
  have hn : w.heap[b]? = none := by simp; omega
  simp [World.cell?, hn] at h
theorem cell_alloc_old {w : World} {b o : Nat} {v : Value} {x : Obj} (h : w.cell? ⟨b, o, none⟩ = some v) : (w.alloc x).cell? ⟨b, o, none⟩ = some v :=
  (((Below.refl w.heap.size w).alloc (Nat.le_refl _) x).cell (p := ⟨b, o, none⟩) (cell_lt h)).trans h

/-- The pairs: five numbers each, in one block from its head. -/
structure Prs (w : World) (b n : Nat) (F T C E S : Nat → Int) : Prop where
  lt : b < w.heap.size
  f : ∀ i, i < n → w.cell? ⟨b, i * 5, none⟩ = some (.int .i64 (F i))
  t : ∀ i, i < n → w.cell? ⟨b, i * 5 + 1, none⟩ = some (.int .i64 (T i))
  c : ∀ i, i < n → w.cell? ⟨b, i * 5 + 2, none⟩ = some (.int .i64 (C i))
  e : ∀ i, i < n → w.cell? ⟨b, i * 5 + 3, none⟩ = some (.int .i64 (E i))
  s : ∀ i, i < n → w.cell? ⟨b, i * 5 + 4, none⟩ = some (.int .i64 (S i))
structure Rng (n : Nat) (F : Nat → Int) : Prop where
  lo : ∀ i, i < n → -9223372036854775808 ≤ F i
  hi : ∀ i, i < n → F i ≤ 9223372036854775807
theorem Rng.wf {n : Nat} {F : Nat → Int} (h : Rng n F) {i : Nat} (hi : i < n) : (Lit.int .i64 (F i)).wf = true := WalkArith.wf_i64 ⟨h.lo i hi, h.hi i hi⟩
theorem Prs.later {B : Nat} {w w' : World} {b n : Nat} {F T C E S : Nat → Int} (h : Prs w b n F T C E S) (hb : Below B w w') (hB : b < B) : Prs w' b n F T C E S :=
  ⟨Nat.lt_of_lt_of_le h.lt hb.size, fun i hi => (hb.cell (p := ⟨b, i * 5, none⟩) hB).trans (h.f i hi), fun i hi => (hb.cell (p := ⟨b, i * 5 + 1, none⟩) hB).trans (h.t i hi), fun i hi => (hb.cell (p := ⟨b, i * 5 + 2, none⟩) hB).trans (h.c i hi), fun i hi => (hb.cell (p := ⟨b, i * 5 + 3, none⟩) hB).trans (h.e i hi), fun i hi => (hb.cell (p := ⟨b, i * 5 + 4, none⟩) hB).trans (h.s i hi)⟩

def tgt (C E S : Nat → Int) (i j : Nat) : Bool := bless (lim (C i) (E i) (S i)) (opn (S i)) (lim (C j) (E j) (S j)) (opn (S j))
def ky (F T : Nat → Int) (i : Nat) : Int × Int := (F i, T i)
def VS (l : List Nat) : List Value := l.map fun i => .int .i64 (i : Nat)
theorem info3 : (Yba.prog.info? 3).map (fun i => (i.zero, i.size, i.bytes)) = some (some (.int .i64 0), 1, 8) := by kernel_rfl
theorem grown_of_below {w w' : World} (h : Below w.heap.size w w') (row : Option Nat) : w.grownBy w' row := ⟨h.os, h.tape, h.output, h.size, fun k hk _ => h.block k hk⟩
theorem owns_isSlice {w : World} {base n : Nat} {e : TypeId} {v : Value} {xs : List Value} (h : w.ownsRow base e 1 v n xs) : ∃ ao cap, v = .slice ao n cap := by
  obtain ⟨_, h | ⟨g, cap, cur, h, _⟩⟩ := h
  · obtain ⟨rfl, rfl⟩ := h; exact ⟨_, _, rfl⟩
  · exact ⟨_, _, h⟩
theorem owns_pos {w : World} {base n cap : Nat} {e : TypeId} {ao : Option Addr} {xs : List Value} (h : w.ownsRow base e 1 (.slice ao n cap) n xs) (hn : 0 < n) : ∃ g, ao = some ⟨g, 0, none⟩ ∧ base ≤ g ∧ g < w.heap.size := by
  have hlt := h.lt
  obtain ⟨_, h | ⟨g, cap, cur, h, hb, hh, _⟩⟩ := h
  · omega
  · injection h with h1 h2 h3
    subst h1
    exact ⟨g, rfl, hlt g rfl⟩

/-- The state at the loop's head. -/
structure Kp (w wr : World) (F T C E S : Nat → Int) (k : Nat) (kv : Value) (D : DataW Unit) : Prop where
  map : wr.ownsMap Yba.prog 45 (plainElem Yba.prog 3) w.heap.size k D
  row : wr.ownsRow (w.heap.size + 1) 3 1 kv (keptOf (ky F T) (tgt C E S) k).length (VS (keptOf (ky F T) (tgt C E S) k))
  bel : Below w.heap.size w wr
  size : w.heap.size + 1 ≤ wr.heap.size
  ok : MapOk (ky F T) D (keptOf (ky F T) (tgt C E S) k)

set_option maxHeartbeats 2000000 in
set_option maxRecDepth 100000 in
theorem tightest_any (b n cap : Nat) (F T C E S : Nat → Int) (w : World) (hn : n ≤ 256) (hp : Prs w b n F T C E S) (rF : Rng n F) (rT : Rng n T) (rC : Rng n C) (rE : Rng n E) (rS : Rng n S) :
    Calls Yba.prog 9 #[.slice (some ⟨b, 0, none⟩) n cap] w fun en w' => ∃ v, en = .returned v ∧ w'.ownsRow (w.heap.size + 1) 3 1 v (keptOf (ky F T) (tgt C E S) n).length (VS (keptOf (ky F T) (tgt C E S) n)) ∧ Below w.heap.size w w' := by
  have hmm := @run_makeMap Yba.prog
  have HP := hide hp
  clear hp
  go_enter Yba.func9, Yba.ntmps9
  go_wp2_with fail
  go_loopw [3, 12] (fun kv t wr => ∃ k : Nat, k ≤ n ∧ t = .int .i64 k ∧ ∃ D, Kp w wr F T C E S k kv D) (fun _ t _ => n - (intOf t).toNat)
  case atStart => exact ⟨0, Nat.zero_le _, rfl, .map [], ⟨World.ownsMap_made _ _ _ _, World.ownsRow_nil _ _ _ _, (Below.refl _ _).alloc (Nat.le_refl _) _, by simp, mapOk_nil⟩⟩
  case round =>
    obtain ⟨k, hk, rfl, D, hK⟩ := hrel
    by_cases hlt : k < n
    · obtain ⟨ao, cp, rfl⟩ := owns_isSlice hK.row
      have hx0 : wr.cell? ⟨b, k * 5, none⟩ = some (.int .i64 (F k)) := (hK.bel.cell (p := ⟨b, k * 5, none⟩) HP.out.lt).trans (HP.out.f k hlt)
      have hx1 : wr.cell? ⟨b, k * 5 + 1, none⟩ = some (.int .i64 (T k)) := (hK.bel.cell (p := ⟨b, k * 5 + 1, none⟩) HP.out.lt).trans (HP.out.t k hlt)
      have hx2 : wr.cell? ⟨b, k * 5 + 2, none⟩ = some (.int .i64 (C k)) := (hK.bel.cell (p := ⟨b, k * 5 + 2, none⟩) HP.out.lt).trans (HP.out.c k hlt)
      have hx3 : wr.cell? ⟨b, k * 5 + 3, none⟩ = some (.int .i64 (E k)) := (hK.bel.cell (p := ⟨b, k * 5 + 3, none⟩) HP.out.lt).trans (HP.out.e k hlt)
      have hx4 : wr.cell? ⟨b, k * 5 + 4, none⟩ = some (.int .i64 (S k)) := (hK.bel.cell (p := ⟨b, k * 5 + 4, none⟩) HP.out.lt).trans (HP.out.s k hlt)
      have wf0 := rF.wf hlt
      have wf1 := rT.wf hlt
      have hkey := key_is (F k) (T k) wf0 wf1
      have hlen := keptOf_len (key := ky F T) (tg := tgt C E S) k
      cases hi : idx (ky F T) (keptOf (ky F T) (tgt C E S) k) (F k, T k) with
      | none =>
        have hhas := (hK.ok (F k) (T k) wf0 wf1).2 hi
        obtain ⟨i0, hi0, hz0, hz1, hz2⟩ := info_parts info3
        have HI := hide (And.intro hi (And.intro wf0 wf1))
        have HK := hide hK
        have HY := hide (And.intro hkey hhas)
        clear hi hK wf0 wf1 hkey hhas
        generalize hL : keptOf (ky F T) (tgt C E S) k = L at *
        have HL := hide hL
        clear hL
        go_wp2_with (at_lookup; go_must (refine wpList_lookup_own_ok_int _ rfl _ _ 43 rfl 45 3 .i64 law45 Yba.underlying43 Yba.underlying3 (zeroE _) w.heap.size k D rfl (HK.out.map.alloc _) _ _ rfl HY.out.1 ?_))
        intro c hat hwc
        rw [HY.out.2]
        clear hat hwc
        go_wp2_with (at_mapUpdate; go_must (refine wpList_mapUpdate_own _ rfl _ _ _ 43 rfl 45 3 law45 Yba.underlying43 _ w.heap.size k D rfl (HK.out.map.alloc _) (by unfold maxLen; omega) _ _ _ rfl rfl HY.out.1 _ [] (plainElem_int Yba.underlying3 (WalkArith.wf_i64 ⟨by omega, by omega⟩)) ?_))
        intro w1 hown1 hgrow1
        have hrw := HK.out.row
        rw [HL.out] at hrw
        have hnb : ∀ z, (Value.slice ao L.length cp).ownBlock = some z → w.heap.size + 1 ≤ z := fun z hz => (hrw.lt z hz).1
        have hrow1 := (hrw.alloc (.cells #[.int .i64 (F k), .int .i64 (T k), .int .i64 (C k), .int .i64 (E k), .int .i64 (S k)] 24)).kept hgrow1 (.inr fun e => by have := hnb _ e; omega)
        have hs1 : wr.heap.size + 1 ≤ w1.heap.size := by have := hgrow1.size; simpa using this
        have hs0 := HK.out.size
        have HG := hide (And.intro hown1 (And.intro hgrow1 (And.intro hrow1 hnb)))
        clear hown1 hgrow1 hrw hrow1 hnb
        go_wp2_with (at_builtin; go_must (refine wpList_append_own_at _ rfl _ _ 30 rfl (w.heap.size + 1) 3 i0 (.int .i64 0) 1 8 Yba.underlying30 hi0 hz0 hz1 hz2 rfl (by decide) _ _ _ rfl (HG.out.2.2.1.alloc _) ⟨w1.heap.size, 0, none⟩ 1 1 [.int .i64 (k : Nat)] rfl rfl (cell_one_new _ _ _) (ints_oneCell .i64 [(k : Int)]) (by unfold maxLen; omega) (by omega) (by simp; omega) ?_))
        intro v' w2 hown2 hgrow2 _ hloc
        have HG2 := hide (And.intro hown2 hgrow2)
        clear hown2 hgrow2 hloc hi0 hz0 hz1 hz2
        go_wp2
        go_roundw
        case rel =>
          obtain ⟨hown1, hgrow1, hrow1, hnb⟩ := HG.out
          obtain ⟨hown2, hgrow2⟩ := HG2.out
          obtain ⟨hi, wf0, wf1⟩ := HI.out
          have hK := HK.out
          have hL := HL.out
          have e1 : keptOf (ky F T) (tgt C E S) (k + 1) = L ++ [k] := by rw [keptOf_none (by rw [hL]; exact hi), hL]
          refine ⟨k + 1, by omega, by go_num, D.put (KL (F k) (T k)) (.lit (.int .i64 (L.length : Nat))), ⟨?_, ?_, ?_, ?_, ?_⟩⟩
          · exact (hown1.alloc _).kept hgrow2 (fun e => by have := hnb _ e.symm; omega)
          · rw [e1]
            simpa [VS] using hown2
          · exact (((hK.bel.alloc hK.bel.size _).grown hgrow1 (by simp; omega) (by intro z hz; cases hz; exact Nat.le_refl _)).alloc (by omega) _).grown hgrow2 (by simp; omega) (fun z hz => by have := hnb z hz; omega)
          · have := hgrow2.size
            simp at this
            omega
          · rw [e1]
            refine mapOk_snoc (F k) (T k) rfl wf0 wf1 hi hK.map.isMap ?_
            rw [← hL]
            exact hK.ok
        case measure => simp [intOf]; omega
      | some a =>
        have hrw := hK.row
        obtain ⟨ha, hka⟩ := idx_some hi
        obtain ⟨g, rfl, hg1, hg2⟩ := owns_pos hrw (by omega)
        have hq := keptOf_lt (key := ky F T) (tg := tgt C E S) k ((keptOf (ky F T) (tgt C E S) k).getD a 0) (by simp only [List.getD, List.getElem?_eq_getElem ha, Option.getD_some]; exact List.getElem_mem ha)
        have hca : wr.cell? ⟨g, a, none⟩ = some (.int .i64 (((keptOf (ky F T) (tgt C E S) k).getD a 0 : Nat) : Int)) := by
          rw [hrw.cellAt a (by omega)]
          simp [VS, List.getD, ha]
        have hfa := hrw.frozenAt a
        have hat0 := ((hK.ok (F k) (T k) wf0 wf1).1 a hi).2
        have hhas := ((hK.ok (F k) (T k) wf0 wf1).1 a hi).1
        generalize hqq : (keptOf (ky F T) (tgt C E S) k).getD a 0 = q at *
        have hy0 : wr.cell? ⟨b, q * 5, none⟩ = some (.int .i64 (F q)) := (hK.bel.cell (p := ⟨b, q * 5, none⟩) HP.out.lt).trans (HP.out.f q (by omega))
        have hy1 : wr.cell? ⟨b, q * 5 + 1, none⟩ = some (.int .i64 (T q)) := (hK.bel.cell (p := ⟨b, q * 5 + 1, none⟩) HP.out.lt).trans (HP.out.t q (by omega))
        have hy2 : wr.cell? ⟨b, q * 5 + 2, none⟩ = some (.int .i64 (C q)) := (hK.bel.cell (p := ⟨b, q * 5 + 2, none⟩) HP.out.lt).trans (HP.out.c q (by omega))
        have hy3 : wr.cell? ⟨b, q * 5 + 3, none⟩ = some (.int .i64 (E q)) := (hK.bel.cell (p := ⟨b, q * 5 + 3, none⟩) HP.out.lt).trans (HP.out.e q (by omega))
        have hy4 : wr.cell? ⟨b, q * 5 + 4, none⟩ = some (.int .i64 (S q)) := (hK.bel.cell (p := ⟨b, q * 5 + 4, none⟩) HP.out.lt).trans (HP.out.s q (by omega))
        have hqn : q < n := by omega
        have hs0 := hK.size
        have hbw : b < w.heap.size := HP.out.lt
        have f0 : ((wr.alloc (.cells #[.int .i64 (F k), .int .i64 (T k), .int .i64 (C k), .int .i64 (E k), .int .i64 (S k)] 24)).cell? ⟨wr.heap.size, 0, none⟩ = some (.int .i64 (F k)) ∧ (wr.alloc (.cells #[.int .i64 (F k), .int .i64 (T k), .int .i64 (C k), .int .i64 (E k), .int .i64 (S k)] 24)).cell? ⟨wr.heap.size, 1, none⟩ = some (.int .i64 (T k)) ∧ (wr.alloc (.cells #[.int .i64 (F k), .int .i64 (T k), .int .i64 (C k), .int .i64 (E k), .int .i64 (S k)] 24)).cell? ⟨wr.heap.size, 2, none⟩ = some (.int .i64 (C k)) ∧ (wr.alloc (.cells #[.int .i64 (F k), .int .i64 (T k), .int .i64 (C k), .int .i64 (E k), .int .i64 (S k)] 24)).cell? ⟨wr.heap.size, 3, none⟩ = some (.int .i64 (E k)) ∧ (wr.alloc (.cells #[.int .i64 (F k), .int .i64 (T k), .int .i64 (C k), .int .i64 (E k), .int .i64 (S k)] 24)).cell? ⟨wr.heap.size, 4, none⟩ = some (.int .i64 (S k)) ∧ (wr.alloc (.cells #[.int .i64 (F k), .int .i64 (T k), .int .i64 (C k), .int .i64 (E k), .int .i64 (S k)] 24)).cell? ⟨g, a, none⟩ = some (.int .i64 (q : Nat)) ∧ (wr.alloc (.cells #[.int .i64 (F k), .int .i64 (T k), .int .i64 (C k), .int .i64 (E k), .int .i64 (S k)] 24)).cell? ⟨b, q * 5, none⟩ = some (.int .i64 (F q)) ∧ (wr.alloc (.cells #[.int .i64 (F k), .int .i64 (T k), .int .i64 (C k), .int .i64 (E k), .int .i64 (S k)] 24)).cell? ⟨b, q * 5 + 1, none⟩ = some (.int .i64 (T q)) ∧ (wr.alloc (.cells #[.int .i64 (F k), .int .i64 (T k), .int .i64 (C k), .int .i64 (E k), .int .i64 (S k)] 24)).cell? ⟨b, q * 5 + 2, none⟩ = some (.int .i64 (C q)) ∧ (wr.alloc (.cells #[.int .i64 (F k), .int .i64 (T k), .int .i64 (C k), .int .i64 (E k), .int .i64 (S k)] 24)).cell? ⟨b, q * 5 + 3, none⟩ = some (.int .i64 (E q)) ∧ (wr.alloc (.cells #[.int .i64 (F k), .int .i64 (T k), .int .i64 (C k), .int .i64 (E k), .int .i64 (S k)] 24)).cell? ⟨b, q * 5 + 4, none⟩ = some (.int .i64 (S q))) := by
          refine ⟨by simp [go_sem], by simp [go_sem], by simp [go_sem], by simp [go_sem], by simp [go_sem], ?_, ?_, ?_, ?_, ?_, ?_⟩
          · exact cell_alloc_old hca
          · exact cell_alloc_old hy0
          · exact cell_alloc_old hy1
          · exact cell_alloc_old hy2
          · exact cell_alloc_old hy3
          · exact cell_alloc_old hy4
        have F0 := hide f0
        have HI := hide (And.intro hi (And.intro wf0 wf1))
        have HK := hide hK
        have HY := hide (And.intro hkey (And.intro hhas hat0))
        have HF := hide (And.intro hfa (And.intro hka (And.intro hqq hrw)))
        clear hi hK wf0 wf1 hkey hhas hat0 hfa hka hrw f0 hca hy0 hy1 hy2 hy3 hy4 hqq
        generalize hL : keptOf (ky F T) (tgt C E S) k = L at *
        have HL := hide hL
        clear hL
        go_wp2_with (at_lookup; go_must (refine wpList_lookup_own_ok_int _ rfl _ _ 43 rfl 45 3 .i64 law45 Yba.underlying43 Yba.underlying3 (zeroE _) w.heap.size k D rfl (HK.out.map.alloc _) _ _ rfl HY.out.1 ?_))
        intro c hat hwc
        rw [HY.out.2.1]
        have hc : c = (a : Int) := by
          have := HY.out.2.2.symm.trans hat
          injection this with this
          injection this with _ this
          exact this.symm
        clear hat hwc
        subst hc
        have pc0 := rC.lo k hlt
        have pc1 := rC.hi k hlt
        have pe0 := rE.lo k hlt
        have pe1 := rE.hi k hlt
        have ps0 := rS.lo k hlt
        have ps1 := rS.hi k hlt
        have qc0 := rC.lo q hqn
        have qc1 := rC.hi q hqn
        have qe0 := rE.lo q hqn
        have qe1 := rE.hi q hqn
        have qs0 := rS.lo q hqn
        have qs1 := rS.hi q hqn
        have y0 : wr.heap.size < (wr.alloc (.cells #[.int .i64 (F k), .int .i64 (T k), .int .i64 (C k), .int .i64 (E k), .int .i64 (S k)] 24)).heap.size := by simp
        have y1 : g < (wr.alloc (.cells #[.int .i64 (F k), .int .i64 (T k), .int .i64 (C k), .int .i64 (E k), .int .i64 (S k)] 24)).heap.size := by simp; omega
        have y2 : b < (wr.alloc (.cells #[.int .i64 (F k), .int .i64 (T k), .int .i64 (C k), .int .i64 (E k), .int .i64 (S k)] 24)).heap.size := by simp; omega
        go_wp2_with fail
        have HX : Hid (Below w.heap.size w (wr.alloc (.cells #[.int .i64 (F k), .int .i64 (T k), .int .i64 (C k), .int .i64 (E k), .int .i64 (S k)] 24))) := HK.out.bel.alloc HK.out.bel.size _
        have HM : Hid ((wr.alloc (.cells #[.int .i64 (F k), .int .i64 (T k), .int .i64 (C k), .int .i64 (E k), .int .i64 (S k)] 24)).ownsMap Yba.prog 45 (plainElem Yba.prog 3) w.heap.size k D) := HK.out.map.alloc _
        have HR : Hid ((wr.alloc (.cells #[.int .i64 (F k), .int .i64 (T k), .int .i64 (C k), .int .i64 (E k), .int .i64 (S k)] 24)).ownsRow (w.heap.size + 1) 3 1 (.slice (some ⟨g, 0, none⟩) L.length cp) L.length (VS L)) := by
          have := HK.out.row
          rw [HL.out] at this
          exact this.alloc _
        clear hx0 hx1 hx2 hx3 hx4
        generalize (wr.alloc (.cells #[.int .i64 (F k), .int .i64 (T k), .int .i64 (C k), .int .i64 (E k), .int .i64 (S k)] 24)) = W at *
        obtain ⟨c0, c1, c2, c3, c4, c5, c6, c7, c8, c9, c10⟩ := F0.out
        go_region_held3 (fun w' => (w'.cell? ⟨wr.heap.size, 0, none⟩ = some (.int .i64 (F k)) ∧ w'.cell? ⟨wr.heap.size, 1, none⟩ = some (.int .i64 (T k)) ∧ w'.cell? ⟨wr.heap.size, 2, none⟩ = some (.int .i64 (C k)) ∧ w'.cell? ⟨wr.heap.size, 3, none⟩ = some (.int .i64 (E k)) ∧ w'.cell? ⟨wr.heap.size, 4, none⟩ = some (.int .i64 (S k)) ∧ w'.cell? ⟨g, a, none⟩ = some (.int .i64 (q : Nat)) ∧ w'.cell? ⟨b, q * 5, none⟩ = some (.int .i64 (F q)) ∧ w'.cell? ⟨b, q * 5 + 1, none⟩ = some (.int .i64 (T q)) ∧ w'.cell? ⟨b, q * 5 + 2, none⟩ = some (.int .i64 (C q)) ∧ w'.cell? ⟨b, q * 5 + 3, none⟩ = some (.int .i64 (E q)) ∧ w'.cell? ⟨b, q * 5 + 4, none⟩ = some (.int .i64 (S q))))
          (first | assumption | (simp [go_sem, *]; done))
          (first
            | (go_at_call 10; refine (tighter_any (F k) (T k) (C k) (E k) (S k) (F q) (T q) (C q) (E q) (S q) _ pc0 pc1 pe0 pe1 ps0 ps1 qc0 qc1 qe0 qe1 qs0 qs1).mono ?_; rintro en wa ⟨rfl, ba⟩; have fa : (wa.cell? ⟨wr.heap.size, 0, none⟩ = some (.int .i64 (F k)) ∧ wa.cell? ⟨wr.heap.size, 1, none⟩ = some (.int .i64 (T k)) ∧ wa.cell? ⟨wr.heap.size, 2, none⟩ = some (.int .i64 (C k)) ∧ wa.cell? ⟨wr.heap.size, 3, none⟩ = some (.int .i64 (E k)) ∧ wa.cell? ⟨wr.heap.size, 4, none⟩ = some (.int .i64 (S k)) ∧ wa.cell? ⟨g, a, none⟩ = some (.int .i64 (q : Nat)) ∧ wa.cell? ⟨b, q * 5, none⟩ = some (.int .i64 (F q)) ∧ wa.cell? ⟨b, q * 5 + 1, none⟩ = some (.int .i64 (T q)) ∧ wa.cell? ⟨b, q * 5 + 2, none⟩ = some (.int .i64 (C q)) ∧ wa.cell? ⟨b, q * 5 + 3, none⟩ = some (.int .i64 (E q)) ∧ wa.cell? ⟨b, q * 5 + 4, none⟩ = some (.int .i64 (S q))) := ⟨(ba.cell (p := ⟨wr.heap.size, 0, none⟩) y0).trans F0.out.1, (ba.cell (p := ⟨wr.heap.size, 1, none⟩) y0).trans F0.out.2.1, (ba.cell (p := ⟨wr.heap.size, 2, none⟩) y0).trans F0.out.2.2.1, (ba.cell (p := ⟨wr.heap.size, 3, none⟩) y0).trans F0.out.2.2.2.1, (ba.cell (p := ⟨wr.heap.size, 4, none⟩) y0).trans F0.out.2.2.2.2.1, (ba.cell (p := ⟨g, a, none⟩) y1).trans F0.out.2.2.2.2.2.1, (ba.cell (p := ⟨b, q * 5, none⟩) y2).trans F0.out.2.2.2.2.2.2.1, (ba.cell (p := ⟨b, q * 5 + 1, none⟩) y2).trans F0.out.2.2.2.2.2.2.2.1, (ba.cell (p := ⟨b, q * 5 + 2, none⟩) y2).trans F0.out.2.2.2.2.2.2.2.2.1, (ba.cell (p := ⟨b, q * 5 + 3, none⟩) y2).trans F0.out.2.2.2.2.2.2.2.2.2.1, (ba.cell (p := ⟨b, q * 5 + 4, none⟩) y2).trans F0.out.2.2.2.2.2.2.2.2.2.2⟩))
        have bw : Below W.heap.size W wa := bel_undrew ba
        have fz : wa.frozen? ⟨g, a, none⟩ = false := (bw.frozen (p := ⟨g, a, none⟩) y1).trans (HR.out.frozenAt a)
        have ca := fa.2.2.2.2.2.1
        have HB : Hid (Below w.heap.size w wa) := HX.out.trans (bw.mono (by have := HX.out.size; omega))
        have HM' : Hid (wa.ownsMap Yba.prog 45 (plainElem Yba.prog 3) w.heap.size k D) := HM.out.kept (grown_of_below bw none) (by simp)
        have HR' : Hid (wa.ownsRow (w.heap.size + 1) 3 1 (.slice (some ⟨g, 0, none⟩) L.length cp) L.length (VS L)) := HR.out.kept (grown_of_below bw none) (.inr (by simp [Value.ownBlock]))
        have hsz := bw.size
        clear fa ba bw c0 c1 c2 c3 c4 c5 c6 c7 c8 c9 c10 HM HR HX F0 pc0 pc1 pe0 pe1 ps0 ps1 qc0 qc1 qe0 qe1 qs0 qs1
        have ht : tgt C E S k q = bless (lim (C k) (E k) (S k)) (opn (S k)) (lim (C q) (E q) (S q)) (opn (S q)) := rfl
        cases hb : bless (lim (C k) (E k) (S k)) (opn (S k)) (lim (C q) (E q) (S q)) (opn (S q)) with
        | true =>
          have HT : Hid (tgt C E S k q = true) := ht.trans hb
          clear ht hb
          go_wp2
          go_roundw
          case rel =>
            obtain ⟨hi, wf0, wf1⟩ := HI.out
            have hL := HL.out
            have hqq := HF.out.2.2.1
            have e1 : keptOf (ky F T) (tgt C E S) (k + 1) = L.set a k := by
              rw [keptOf_hit (a := a) (by rw [hL]; exact hi) (by rw [hL, hqq]; exact HT.out), hL]
            refine ⟨k + 1, by omega, by go_num, D, ⟨?_, ?_, ?_, ?_, ?_⟩⟩
            · exact (HM'.out.mono (Nat.le_succ k)).setCell (by simp; omega) _
            · rw [e1]
              have := (HR'.out.stored a (.int .i64 (k : Nat))).1
              simpa [VS, List.map_set] using this
            · exact HB.out.setCell (by simp; omega) _
            · simp; omega
            · rw [e1]
              refine mapOk_set hi ?_
              rw [← hL]
              exact HK.out.ok
          case measure => simp [intOf]; omega
        | false =>
          have HT : Hid (tgt C E S k q = false) := ht.trans hb
          clear ht hb
          go_wp2
          go_roundw
          case rel =>
            obtain ⟨hi, wf0, wf1⟩ := HI.out
            have hL := HL.out
            have hqq := HF.out.2.2.1
            have e1 : keptOf (ky F T) (tgt C E S) (k + 1) = L := by
              rw [keptOf_miss (a := a) (by rw [hL]; exact hi) (by rw [hL, hqq]; exact HT.out), hL]
            refine ⟨k + 1, by omega, by go_num, D, ⟨?_, ?_, ?_, ?_, ?_⟩⟩
            · exact HM'.out.mono (Nat.le_succ k)
            · rw [e1]
              exact HR'.out
            · exact HB.out
            · omega
            · rw [e1, ← hL]
              exact HK.out.ok
          case measure => simp [intOf]; omega
    · have hkn : k = n := by omega
      subst hkn
      have HK := hide hK
      clear hK
      go_wp2
      go_ret
      exact ⟨_, rfl, HK.out.row, HK.out.bel⟩
end Go.Proofs.Ybulkbabq
