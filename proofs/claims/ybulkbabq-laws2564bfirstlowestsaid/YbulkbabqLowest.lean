import Derived.Test.YbulkbabqAts
namespace Go.Proofs.Ybulkbabq
open Go.ChangeShapes Go.WideShapes Go.ChangeAt Go.RowKit Go.Maps
set_option linter.unusedVariables false

/-- What is wanted so far. -/
def Wt (w4 wr : World) (wv : Value) (L : List Nat) (m : Nat) : Prop := Below w4.heap.size w4 wr ∧ wr.ownsRow w4.heap.size 3 1 wv (L.take m).length (VS (L.take m))
theorem Wt.later {w4 wr w' : World} {wv : Value} {L : List Nat} {m : Nat} (h : Wt w4 wr wv L m) (hb : Below wr.heap.size wr w') : Wt w4 w' wv L m :=
  ⟨h.1.trans (hb.mono h.1.size), World.ownsRow.kept h.2 (grown_of_below hb none) (by cases hv : wv.ownBlock <;> simp)⟩

set_option maxHeartbeats 4000000 in
set_option maxRecDepth 100000 in
theorem lowest_any (a : Option Addr) (n c : Nat) (F T C E S : Nat → Int) (w : World) (hn : n ≤ 256) (hn0 : 0 < n) (hs : Came w a n F T C E S) (rF : Rng n F) (rT : Rng n T) (rC : Rng n C) (rE : Rng n E) (rS : Rng n S) :
    Calls Yba.prog 3 #[.slice a n c] w fun en w' => en = .returned (.bool true) ∧ Below w.heap.size w w' := by
  have d0 : decide ((256 : Int) < (n : Int)) = false := by simp; omega
  obtain ⟨i0, hi0, hz0, hz1, hz2⟩ := info_parts info24
  have HS := hide hs
  clear hs
  go_enter Yba.func3, Yba.ntmps3
  go_wp2_with (at_make; go_must (refine wpList_make_full _ rfl _ _ 22 rfl w.heap.size 24 i0 _ 5 Yba.underlying22 hi0 hz0 hz1 _ _ _ _ n rfl rfl rfl rfl ?q1 ?q2 ?q3 ?_))
  case q1 => rw [hz2]; omega
  case q2 => unfold maxLen; omega
  case q3 => exact Nat.le_refl _
  intro w1 hown hgrow
  have hb1 : Below w.heap.size w w1 := (Below.refl _ w).grown hgrow (Nat.le_refl _) (by intro k hk; cases hk)
  have hFl : Fl w w1 n 0 (fun i => fold3 (F i)) (fun i => fold3 (T i)) C E S := by
    refine ⟨(hown.lt w.heap.size rfl).2, fun o ho => ?_, fun o => hown.frozenAt o, fun o ho => by omega, hb1⟩
    have hl := hown.1
    rw [hown.cellAt o (by omega)]
    exact ⟨_, List.getElem?_eq_getElem (by omega)⟩
  have HF := hide hFl
  clear hown hgrow hb1 hFl hi0 hz0 hz1 hz2
  go_wp2_with fail
  go_loopw [5] (fun t wr => ∃ k : Nat, k ≤ n ∧ t = .int .i64 k ∧ Fl w wr n k (fun i => fold3 (F i)) (fun i => fold3 (T i)) C E S) (fun t _ => n - (intOf t).toNat)
  case atStart => exact ⟨0, Nat.zero_le _, rfl, HF.out⟩
  case round =>
    clear HF
    obtain ⟨k, hk, rfl, hM⟩ := hrel
    by_cases hlt : k < n
    · obtain ⟨b, off, rfl, hb, x0, x1, x2, x3, x4⟩ := HS.out.cells hlt
      have y0 := (hM.bel.cell (p := ⟨b, off + k * 5, none⟩) hb).trans x0
      have y1 := (hM.bel.cell (p := ⟨b, off + k * 5 + 1, none⟩) hb).trans x1
      have y2 := (hM.bel.cell (p := ⟨b, off + k * 5 + 2, none⟩) hb).trans x2
      have y3 := (hM.bel.cell (p := ⟨b, off + k * 5 + 3, none⟩) hb).trans x3
      have y4 := (hM.bel.cell (p := ⟨b, off + k * 5 + 4, none⟩) hb).trans x4
      obtain ⟨v0, e0⟩ := hM.all (k * 5) (by omega)
      obtain ⟨v1, e1⟩ := hM.all (k * 5 + 1) (by omega)
      obtain ⟨v2, e2⟩ := hM.all (k * 5 + 2) (by omega)
      obtain ⟨v3, e3⟩ := hM.all (k * 5 + 3) (by omega)
      obtain ⟨v4, e4⟩ := hM.all (k * 5 + 4) (by omega)
      have g0 := hM.fz (k * 5)
      have g1 := hM.fz (k * 5 + 1)
      have g2 := hM.fz (k * 5 + 2)
      have g3 := hM.fz (k * 5 + 3)
      have g4 := hM.fz (k * 5 + 4)
      have hG := hM.lt
      have HM := hide hM
      clear hM x0 x1 x2 x3 x4
      go_wp2
      go_roundw
      case rel => exact ⟨k + 1, by omega, by go_num, HM.out.step hlt (fold_is _) (fold_is _) rfl rfl rfl _⟩
      case measure => simp [intOf]; omega
    · have hkn : n = k := by omega
      subst hkn
      clear hlt hk
      have hpr : Prs wr w.heap.size n (fun i => fold3 (F i)) (fun i => fold3 (T i)) C E S := prs_of hM.lt hM.cells
      have HM := hide (And.intro hpr (And.intro hM.bel hM.lt))
      clear hM hpr
      obtain ⟨ia, hia, ia0, ia1, ia2⟩ := info_parts info28
      go_wp2_with (at_make; go_must (refine wpList_make_full _ rfl _ _ 26 rfl w.heap.size 28 ia _ 1 Yba.underlying26 hia ia0 ia1 _ _ _ _ n rfl rfl rfl rfl ?q1 ?q2 ?q3 ?_))
      case q1 => rw [ia2]; omega
      case q2 => unfold maxLen; omega
      case q3 => exact HM.out.2.1.size
      intro w2 hownA hgrowA
      obtain ⟨ib, hib, ib0, ib1, ib2⟩ := info_parts info4
      have HA := hide (And.intro hownA hgrowA)
      clear hownA hgrowA hia ia0 ia1 ia2
      have hs2 : w.heap.size ≤ w2.heap.size := Nat.le_trans HM.out.2.1.size HA.out.2.size
      go_wp2_with (at_make; go_must (refine wpList_make_full _ rfl _ _ 27 rfl w.heap.size 4 ib _ 1 Yba.underlying27 hib ib0 ib1 _ _ _ _ n rfl rfl rfl rfl ?q1 ?q2 ?q3 ?_))
      case q1 => rw [ib2]; omega
      case q2 => unfold maxLen; omega
      case q3 => exact hs2
      intro w3 hownO hgrowO
      have hAts : Ats w w3 w.heap.size wr.heap.size w2.heap.size n 0 (fun _ => 0) (fun i => fold3 (F i)) (fun i => fold3 (T i)) C E S := by
        have hownA := HA.out.1.kept hgrowO (.inr (by simp [Value.ownBlock]))
        have lA := (HA.out.1.lt wr.heap.size rfl).2
        have lO := (hownO.lt w2.heap.size rfl).2
        have bA : Below wr.heap.size wr w2 := (Below.refl _ _).grown HA.out.2 (Nat.le_refl _) (by intro k hk; cases hk)
        have bO : Below w2.heap.size w2 w3 := (Below.refl _ _).grown hgrowO (Nat.le_refl _) (by intro k hk; cases hk)
        have l0 := HM.out.2.2
        refine ⟨(HM.out.1.later bA l0).later bO (by omega), Nat.le_refl _, l0, lA, lO, fun j hj => ?_, fun j => hownA.frozenAt j, fun j hj => ?_, fun j => hownO.frozenAt j, fun j hj => by omega, fun j hj => by omega, fun j hj => by omega, fun i j h1 h2 => by omega, (HM.out.2.1.trans (bA.mono (by omega))).trans (bO.mono (by omega))⟩
        · have hl := hownA.1
          rw [hownA.cellAt j (by omega)]
          exact ⟨_, List.getElem?_eq_getElem (by omega)⟩
        · have hl := hownO.1
          rw [hownO.cellAt j (by omega)]
          exact ⟨_, List.getElem?_eq_getElem (by omega)⟩
      have HT := hide hAts
      clear hAts HA HM hownO hgrowO hib ib0 ib1 ib2 hs2
      generalize wr.heap.size = A at *
      generalize w2.heap.size = O at *
      go_wp2_with fail
      go_loopw [9] (fun t wr => ∃ k : Nat, k ≤ n ∧ t = .int .i64 k ∧ ∃ P, Ats w wr w.heap.size A O n k P (fun i => fold3 (F i)) (fun i => fold3 (T i)) C E S) (fun t _ => n - (intOf t).toNat)
      case atStart => exact ⟨0, Nat.zero_le _, rfl, _, HT.out⟩
      case round =>
        clear HT
        obtain ⟨k, hk, rfl, P, hM⟩ := hrel
        by_cases hlt : k < n
        · have x0 := hM.prs.f k hlt
          have x1 := hM.prs.t k hlt
          have x2 := hM.prs.c k hlt
          have x3 := hM.prs.e k hlt
          have x4 := hM.prs.s k hlt
          have gA := hM.gA
          have aO := hM.aO
          have lO := hM.lt
          have HM := hide hM
          clear hM
          go_wp2_with (go_at_call 5; refine (biglim_any (fold3 (F k)) (fold3 (T k)) (C k) (E k) (S k) _ (rC.lo k hlt) (rC.hi k hlt) (rE.lo k hlt) (rE.hi k hlt) (rS.lo k hlt) (rS.hi k hlt)).mono ?_; rintro en wx ⟨p, rfl, ip, bx⟩; have hX := HM.out.later bx; obtain ⟨va, z1⟩ := hX.aall k hlt; obtain ⟨vo, z2⟩ := hX.oall k hlt; have z3 := hX.afz k; have z4 := hX.ofz k; have z5 := hX.prs.s k hlt; have n1 : ¬ A = w.heap.size := (by omega); have n2 : ¬ w.heap.size = A := (by omega); have n3 : ¬ A = O := (by omega); have n4 : ¬ O = A := (by omega); have HX := hide (And.intro hX (And.intro (ip.later (Below.refl _ _) (show O + 1 ≤ wr.heap.size by omega)) ip.base)); clear hX ip bx x0 x1 x2 x3 x4)
          go_wp2
          go_roundw
          case rel =>
            refine ⟨k + 1, by omega, by go_num, _, HX.out.1.step hlt HX.out.2.1 (fun j hj => ?_) rfl⟩
            have := (HM.out.int j hj).lt
            have := HX.out.2.2
            omega
          case measure => simp [intOf]; omega
        · have hkn : n = k := by omega
          subst hkn
          clear hlt hk
          obtain ⟨w4, hw4⟩ : ∃ w4, w4 = wr := ⟨_, rfl⟩
          subst hw4
          have rF3 : Rng n (fun i => fold3 (F i)) := ⟨fun i _ => by have := fold3_b (F i); omega, fun i _ => by have := fold3_b (F i); omega⟩
          have rT3 : Rng n (fun i => fold3 (T i)) := ⟨fun i _ => by have := fold3_b (T i); omega, fun i _ => by have := fold3_b (T i); omega⟩
          generalize (fun i => fold3 (F i)) = F3 at *
          generalize (fun i => fold3 (T i)) = T3 at *
          have hG4 : w.heap.size < w4.heap.size := by have := hM.gA; have := hM.aO; have := hM.lt; omega
          have HQ := hide hM
          clear hM HS rF rT
          have HLn := hide (keptOf_len (key := ky F3 T3) (tg := tgt C E S) n)
          have HWI := hide (wanted_is F3 T3 C E S n)
          have HTS := hide (take_step F3 T3 C E S n)
          have HTY := hide (take_stay F3 T3 C E S n)
          have HTA := hide (take_all F3 T3 C E S n)
          go_wp2_with fail
          go_loopw [10, 11] (fun wv t wr => ∃ s : Nat, s ≤ n ∧ t = .int .i64 s ∧ Wt w4 wr wv (keptOf (ky F3 T3) (tgt C E S) n) (cnt (ky F3 T3) s)) (fun _ t _ => n - (intOf t).toNat)
          case atStart => exact ⟨0, Nat.zero_le _, rfl, Below.refl _ _, by simpa [cnt, VS] using World.ownsRow_nil w4 w4.heap.size 3 1⟩
          case round =>
            obtain ⟨s, hs, rfl, hW⟩ := hrel
            by_cases hsn : s < n
            · have HW := hide hW
              clear hW
              go_wp2_with fail
              go_loopw [12, 13] (fun f t wr => ∃ j : Nat, j ≤ s ∧ f = .bool true ∧ t = .int .i64 j ∧ Wt w4 wr u10 (keptOf (ky F3 T3) (tgt C E S) n) (cnt (ky F3 T3) s) ∧ Hid (∀ j', j' < j → decide ((F3 j', T3 j') = (F3 s, T3 s)) = false)) (fun _ t _ => s - (intOf t).toNat)
              case atStart => exact ⟨0, Nat.zero_le _, rfl, rfl, HW.out, fun j' h => by omega⟩
              case round =>
                clear HW
                obtain ⟨j, hj, rfl, rfl, hW, HZ⟩ := hrel
                by_cases hjs : j < s
                · have hjn : j < n := by omega
                  have c0 : wr.cell? ⟨w.heap.size, j * 5, none⟩ = some (.int .i64 (F3 j)) := (hW.1.cell (p := ⟨w.heap.size, j * 5, none⟩) hG4).trans (HQ.out.prs.f j hjn)
                  have c1 : wr.cell? ⟨w.heap.size, j * 5 + 1, none⟩ = some (.int .i64 (T3 j)) := (hW.1.cell (p := ⟨w.heap.size, j * 5 + 1, none⟩) hG4).trans (HQ.out.prs.t j hjn)
                  have c2 : wr.cell? ⟨w.heap.size, j * 5 + 2, none⟩ = some (.int .i64 (C j)) := (hW.1.cell (p := ⟨w.heap.size, j * 5 + 2, none⟩) hG4).trans (HQ.out.prs.c j hjn)
                  have c3 : wr.cell? ⟨w.heap.size, j * 5 + 3, none⟩ = some (.int .i64 (E j)) := (hW.1.cell (p := ⟨w.heap.size, j * 5 + 3, none⟩) hG4).trans (HQ.out.prs.e j hjn)
                  have c4 : wr.cell? ⟨w.heap.size, j * 5 + 4, none⟩ = some (.int .i64 (S j)) := (hW.1.cell (p := ⟨w.heap.size, j * 5 + 4, none⟩) hG4).trans (HQ.out.prs.s j hjn)
                  have c5 : wr.cell? ⟨w.heap.size, s * 5, none⟩ = some (.int .i64 (F3 s)) := (hW.1.cell (p := ⟨w.heap.size, s * 5, none⟩) hG4).trans (HQ.out.prs.f s hsn)
                  have c6 : wr.cell? ⟨w.heap.size, s * 5 + 1, none⟩ = some (.int .i64 (T3 s)) := (hW.1.cell (p := ⟨w.heap.size, s * 5 + 1, none⟩) hG4).trans (HQ.out.prs.t s hsn)
                  have c7 : wr.cell? ⟨w.heap.size, s * 5 + 2, none⟩ = some (.int .i64 (C s)) := (hW.1.cell (p := ⟨w.heap.size, s * 5 + 2, none⟩) hG4).trans (HQ.out.prs.c s hsn)
                  have c8 : wr.cell? ⟨w.heap.size, s * 5 + 3, none⟩ = some (.int .i64 (E s)) := (hW.1.cell (p := ⟨w.heap.size, s * 5 + 3, none⟩) hG4).trans (HQ.out.prs.e s hsn)
                  have c9 : wr.cell? ⟨w.heap.size, s * 5 + 4, none⟩ = some (.int .i64 (S s)) := (hW.1.cell (p := ⟨w.heap.size, s * 5 + 4, none⟩) hG4).trans (HQ.out.prs.s s hsn)
                  have yG : w.heap.size < wr.heap.size := Nat.lt_of_lt_of_le hG4 hW.1.size
                  have HW := hide hW
                  clear hW
                  cases hd : decide ((F3 j, T3 j) = (F3 s, T3 s)) with
                  | false =>
                    have HN := hide hd
                    clear hd
                    go_wp2_with fail
                    go_region_held3 (fun w' => (w'.cell? ⟨w.heap.size, j * 5, none⟩ = some (.int .i64 (F3 j)) ∧ w'.cell? ⟨w.heap.size, j * 5 + 1, none⟩ = some (.int .i64 (T3 j)) ∧ w'.cell? ⟨w.heap.size, j * 5 + 2, none⟩ = some (.int .i64 (C j)) ∧ w'.cell? ⟨w.heap.size, j * 5 + 3, none⟩ = some (.int .i64 (E j)) ∧ w'.cell? ⟨w.heap.size, j * 5 + 4, none⟩ = some (.int .i64 (S j)) ∧ w'.cell? ⟨w.heap.size, s * 5, none⟩ = some (.int .i64 (F3 s)) ∧ w'.cell? ⟨w.heap.size, s * 5 + 1, none⟩ = some (.int .i64 (T3 s)) ∧ w'.cell? ⟨w.heap.size, s * 5 + 2, none⟩ = some (.int .i64 (C s)) ∧ w'.cell? ⟨w.heap.size, s * 5 + 3, none⟩ = some (.int .i64 (E s)) ∧ w'.cell? ⟨w.heap.size, s * 5 + 4, none⟩ = some (.int .i64 (S s))))
                      (first | assumption | (simp [go_sem, *]; done))
                      (first
                        | (go_at_call 6; refine (same_of false (F3 j) (T3 j) (C j) (E j) (S j) (F3 s) (T3 s) (C s) (E s) (S s) _ HN.out).mono ?_; rintro en wa ⟨rfl, ba⟩; have fa : (wa.cell? ⟨w.heap.size, j * 5, none⟩ = some (.int .i64 (F3 j)) ∧ wa.cell? ⟨w.heap.size, j * 5 + 1, none⟩ = some (.int .i64 (T3 j)) ∧ wa.cell? ⟨w.heap.size, j * 5 + 2, none⟩ = some (.int .i64 (C j)) ∧ wa.cell? ⟨w.heap.size, j * 5 + 3, none⟩ = some (.int .i64 (E j)) ∧ wa.cell? ⟨w.heap.size, j * 5 + 4, none⟩ = some (.int .i64 (S j)) ∧ wa.cell? ⟨w.heap.size, s * 5, none⟩ = some (.int .i64 (F3 s)) ∧ wa.cell? ⟨w.heap.size, s * 5 + 1, none⟩ = some (.int .i64 (T3 s)) ∧ wa.cell? ⟨w.heap.size, s * 5 + 2, none⟩ = some (.int .i64 (C s)) ∧ wa.cell? ⟨w.heap.size, s * 5 + 3, none⟩ = some (.int .i64 (E s)) ∧ wa.cell? ⟨w.heap.size, s * 5 + 4, none⟩ = some (.int .i64 (S s))) := ⟨(ba.cell (p := ⟨w.heap.size, j * 5, none⟩) yG).trans c0, (ba.cell (p := ⟨w.heap.size, j * 5 + 1, none⟩) yG).trans c1, (ba.cell (p := ⟨w.heap.size, j * 5 + 2, none⟩) yG).trans c2, (ba.cell (p := ⟨w.heap.size, j * 5 + 3, none⟩) yG).trans c3, (ba.cell (p := ⟨w.heap.size, j * 5 + 4, none⟩) yG).trans c4, (ba.cell (p := ⟨w.heap.size, s * 5, none⟩) yG).trans c5, (ba.cell (p := ⟨w.heap.size, s * 5 + 1, none⟩) yG).trans c6, (ba.cell (p := ⟨w.heap.size, s * 5 + 2, none⟩) yG).trans c7, (ba.cell (p := ⟨w.heap.size, s * 5 + 3, none⟩) yG).trans c8, (ba.cell (p := ⟨w.heap.size, s * 5 + 4, none⟩) yG).trans c9⟩))
                    have HW2 : Hid (Wt w4 wa u10 (keptOf (ky F3 T3) (tgt C E S) n) (cnt (ky F3 T3) s)) := HW.out.later (bel_undrew ba)
                    clear fa ba c0 c1 c2 c3 c4 c5 c6 c7 c8 c9
                    go_wp2
                    go_roundw
                    case rel =>
                      refine ⟨j + 1, by omega, rfl, by go_num, HW2.out, fun j' h => ?_⟩
                      by_cases e : j' = j
                      · subst e; exact HN.out
                      · exact HZ.out j' (by omega)
                    case measure => simp [intOf]; omega
                  | true =>
                    have HN := hide hd
                    clear hd
                    go_wp2_with fail
                    go_region_held3 (fun w' => (w'.cell? ⟨w.heap.size, j * 5, none⟩ = some (.int .i64 (F3 j)) ∧ w'.cell? ⟨w.heap.size, j * 5 + 1, none⟩ = some (.int .i64 (T3 j)) ∧ w'.cell? ⟨w.heap.size, j * 5 + 2, none⟩ = some (.int .i64 (C j)) ∧ w'.cell? ⟨w.heap.size, j * 5 + 3, none⟩ = some (.int .i64 (E j)) ∧ w'.cell? ⟨w.heap.size, j * 5 + 4, none⟩ = some (.int .i64 (S j)) ∧ w'.cell? ⟨w.heap.size, s * 5, none⟩ = some (.int .i64 (F3 s)) ∧ w'.cell? ⟨w.heap.size, s * 5 + 1, none⟩ = some (.int .i64 (T3 s)) ∧ w'.cell? ⟨w.heap.size, s * 5 + 2, none⟩ = some (.int .i64 (C s)) ∧ w'.cell? ⟨w.heap.size, s * 5 + 3, none⟩ = some (.int .i64 (E s)) ∧ w'.cell? ⟨w.heap.size, s * 5 + 4, none⟩ = some (.int .i64 (S s))))
                      (first | assumption | (simp [go_sem, *]; done))
                      (first
                        | (go_at_call 6; refine (same_of true (F3 j) (T3 j) (C j) (E j) (S j) (F3 s) (T3 s) (C s) (E s) (S s) _ HN.out).mono ?_; rintro en wa ⟨rfl, ba⟩; have fa : (wa.cell? ⟨w.heap.size, j * 5, none⟩ = some (.int .i64 (F3 j)) ∧ wa.cell? ⟨w.heap.size, j * 5 + 1, none⟩ = some (.int .i64 (T3 j)) ∧ wa.cell? ⟨w.heap.size, j * 5 + 2, none⟩ = some (.int .i64 (C j)) ∧ wa.cell? ⟨w.heap.size, j * 5 + 3, none⟩ = some (.int .i64 (E j)) ∧ wa.cell? ⟨w.heap.size, j * 5 + 4, none⟩ = some (.int .i64 (S j)) ∧ wa.cell? ⟨w.heap.size, s * 5, none⟩ = some (.int .i64 (F3 s)) ∧ wa.cell? ⟨w.heap.size, s * 5 + 1, none⟩ = some (.int .i64 (T3 s)) ∧ wa.cell? ⟨w.heap.size, s * 5 + 2, none⟩ = some (.int .i64 (C s)) ∧ wa.cell? ⟨w.heap.size, s * 5 + 3, none⟩ = some (.int .i64 (E s)) ∧ wa.cell? ⟨w.heap.size, s * 5 + 4, none⟩ = some (.int .i64 (S s))) := ⟨(ba.cell (p := ⟨w.heap.size, j * 5, none⟩) yG).trans c0, (ba.cell (p := ⟨w.heap.size, j * 5 + 1, none⟩) yG).trans c1, (ba.cell (p := ⟨w.heap.size, j * 5 + 2, none⟩) yG).trans c2, (ba.cell (p := ⟨w.heap.size, j * 5 + 3, none⟩) yG).trans c3, (ba.cell (p := ⟨w.heap.size, j * 5 + 4, none⟩) yG).trans c4, (ba.cell (p := ⟨w.heap.size, s * 5, none⟩) yG).trans c5, (ba.cell (p := ⟨w.heap.size, s * 5 + 1, none⟩) yG).trans c6, (ba.cell (p := ⟨w.heap.size, s * 5 + 2, none⟩) yG).trans c7, (ba.cell (p := ⟨w.heap.size, s * 5 + 3, none⟩) yG).trans c8, (ba.cell (p := ⟨w.heap.size, s * 5 + 4, none⟩) yG).trans c9⟩))
                    have HW2 : Hid (Wt w4 wa u10 (keptOf (ky F3 T3) (tgt C E S) n) (cnt (ky F3 T3) s)) := HW.out.later (bel_undrew ba)
                    clear fa ba c0 c1 c2 c3 c4 c5 c6 c7 c8 c9
                    go_wp2
                    go_roundw
                    case rel =>
                      refine ⟨s + 1, by omega, by go_num, ?_⟩
                      have hf : ¬ fo (ky F3 T3) s := fun h => h j hjs (of_decide_eq_true HN.out)
                      have := HW2.out
                      unfold Wt at this ⊢
                      rw [HTY.out s hf]
                      exact this
                    case measure => simp [intOf]; omega
                · have hjs' : j = s := by omega
                  subst hjs'
                  have hf : fo (ky F3 T3) j := fun j' h => of_decide_eq_false (HZ.out j' h)
                  have HFo := hide hf
                  clear hf HZ hjs hj
                  have HW := hide hW
                  clear hW
                  go_wp2_with fail
                  obtain ⟨V, hV⟩ : ∃ V, V = u10 := ⟨_, rfl⟩
                  subst hV
                  go_loopw [10, 14] (fun wv t wr => wv = V ∧ ∃ i : Nat, j ≤ i ∧ i ≤ n ∧ t = .int .i64 i ∧ Wt w4 wr V (keptOf (ky F3 T3) (tgt C E S) n) (cnt (ky F3 T3) j) ∧ Hid (∀ i', j ≤ i' → i' < i → ky F3 T3 i' = ky F3 T3 j → ¬ Ok F3 T3 C E S n i')) (fun _ t _ => n - (intOf t).toNat)
                  case atStart => exact ⟨rfl, j, Nat.le_refl _, by omega, rfl, HW.out, fun i' h1 h2 => by omega⟩
                  case round =>
                    clear HW
                    obtain ⟨rfl, i, hji, hi, rfl, hW, HY⟩ := hrel
                    by_cases hin : i < n
                    · skip
                      have c0 : wr.cell? ⟨w.heap.size, i * 5, none⟩ = some (.int .i64 (F3 i)) := (hW.1.cell (p := ⟨w.heap.size, i * 5, none⟩) hG4).trans (HQ.out.prs.f i hin)
                      have c1 : wr.cell? ⟨w.heap.size, i * 5 + 1, none⟩ = some (.int .i64 (T3 i)) := (hW.1.cell (p := ⟨w.heap.size, i * 5 + 1, none⟩) hG4).trans (HQ.out.prs.t i hin)
                      have c2 : wr.cell? ⟨w.heap.size, i * 5 + 2, none⟩ = some (.int .i64 (C i)) := (hW.1.cell (p := ⟨w.heap.size, i * 5 + 2, none⟩) hG4).trans (HQ.out.prs.c i hin)
                      have c3 : wr.cell? ⟨w.heap.size, i * 5 + 3, none⟩ = some (.int .i64 (E i)) := (hW.1.cell (p := ⟨w.heap.size, i * 5 + 3, none⟩) hG4).trans (HQ.out.prs.e i hin)
                      have c4 : wr.cell? ⟨w.heap.size, i * 5 + 4, none⟩ = some (.int .i64 (S i)) := (hW.1.cell (p := ⟨w.heap.size, i * 5 + 4, none⟩) hG4).trans (HQ.out.prs.s i hin)
                      have c5 : wr.cell? ⟨w.heap.size, j * 5, none⟩ = some (.int .i64 (F3 j)) := (hW.1.cell (p := ⟨w.heap.size, j * 5, none⟩) hG4).trans (HQ.out.prs.f j hsn)
                      have c6 : wr.cell? ⟨w.heap.size, j * 5 + 1, none⟩ = some (.int .i64 (T3 j)) := (hW.1.cell (p := ⟨w.heap.size, j * 5 + 1, none⟩) hG4).trans (HQ.out.prs.t j hsn)
                      have c7 : wr.cell? ⟨w.heap.size, j * 5 + 2, none⟩ = some (.int .i64 (C j)) := (hW.1.cell (p := ⟨w.heap.size, j * 5 + 2, none⟩) hG4).trans (HQ.out.prs.c j hsn)
                      have c8 : wr.cell? ⟨w.heap.size, j * 5 + 3, none⟩ = some (.int .i64 (E j)) := (hW.1.cell (p := ⟨w.heap.size, j * 5 + 3, none⟩) hG4).trans (HQ.out.prs.e j hsn)
                      have c9 : wr.cell? ⟨w.heap.size, j * 5 + 4, none⟩ = some (.int .i64 (S j)) := (hW.1.cell (p := ⟨w.heap.size, j * 5 + 4, none⟩) hG4).trans (HQ.out.prs.s j hsn)
                      have yG : w.heap.size < wr.heap.size := Nat.lt_of_lt_of_le hG4 hW.1.size
                      have HW := hide hW
                      clear hW
                      cases hd : decide ((F3 i, T3 i) = (F3 j, T3 j)) with
                      | false =>
                        have HN := hide hd
                        clear hd
                        go_wp2_with fail
                        go_region_held3 (fun w' => (w'.cell? ⟨w.heap.size, i * 5, none⟩ = some (.int .i64 (F3 i)) ∧ w'.cell? ⟨w.heap.size, i * 5 + 1, none⟩ = some (.int .i64 (T3 i)) ∧ w'.cell? ⟨w.heap.size, i * 5 + 2, none⟩ = some (.int .i64 (C i)) ∧ w'.cell? ⟨w.heap.size, i * 5 + 3, none⟩ = some (.int .i64 (E i)) ∧ w'.cell? ⟨w.heap.size, i * 5 + 4, none⟩ = some (.int .i64 (S i)) ∧ w'.cell? ⟨w.heap.size, j * 5, none⟩ = some (.int .i64 (F3 j)) ∧ w'.cell? ⟨w.heap.size, j * 5 + 1, none⟩ = some (.int .i64 (T3 j)) ∧ w'.cell? ⟨w.heap.size, j * 5 + 2, none⟩ = some (.int .i64 (C j)) ∧ w'.cell? ⟨w.heap.size, j * 5 + 3, none⟩ = some (.int .i64 (E j)) ∧ w'.cell? ⟨w.heap.size, j * 5 + 4, none⟩ = some (.int .i64 (S j))))
                          (first | assumption | (simp [go_sem, *]; done))
                          (first
                            | (go_at_call 6; refine (same_of false (F3 i) (T3 i) (C i) (E i) (S i) (F3 j) (T3 j) (C j) (E j) (S j) _ HN.out).mono ?_; rintro en wa ⟨rfl, ba⟩; have fa : (wa.cell? ⟨w.heap.size, i * 5, none⟩ = some (.int .i64 (F3 i)) ∧ wa.cell? ⟨w.heap.size, i * 5 + 1, none⟩ = some (.int .i64 (T3 i)) ∧ wa.cell? ⟨w.heap.size, i * 5 + 2, none⟩ = some (.int .i64 (C i)) ∧ wa.cell? ⟨w.heap.size, i * 5 + 3, none⟩ = some (.int .i64 (E i)) ∧ wa.cell? ⟨w.heap.size, i * 5 + 4, none⟩ = some (.int .i64 (S i)) ∧ wa.cell? ⟨w.heap.size, j * 5, none⟩ = some (.int .i64 (F3 j)) ∧ wa.cell? ⟨w.heap.size, j * 5 + 1, none⟩ = some (.int .i64 (T3 j)) ∧ wa.cell? ⟨w.heap.size, j * 5 + 2, none⟩ = some (.int .i64 (C j)) ∧ wa.cell? ⟨w.heap.size, j * 5 + 3, none⟩ = some (.int .i64 (E j)) ∧ wa.cell? ⟨w.heap.size, j * 5 + 4, none⟩ = some (.int .i64 (S j))) := ⟨(ba.cell (p := ⟨w.heap.size, i * 5, none⟩) yG).trans c0, (ba.cell (p := ⟨w.heap.size, i * 5 + 1, none⟩) yG).trans c1, (ba.cell (p := ⟨w.heap.size, i * 5 + 2, none⟩) yG).trans c2, (ba.cell (p := ⟨w.heap.size, i * 5 + 3, none⟩) yG).trans c3, (ba.cell (p := ⟨w.heap.size, i * 5 + 4, none⟩) yG).trans c4, (ba.cell (p := ⟨w.heap.size, j * 5, none⟩) yG).trans c5, (ba.cell (p := ⟨w.heap.size, j * 5 + 1, none⟩) yG).trans c6, (ba.cell (p := ⟨w.heap.size, j * 5 + 2, none⟩) yG).trans c7, (ba.cell (p := ⟨w.heap.size, j * 5 + 3, none⟩) yG).trans c8, (ba.cell (p := ⟨w.heap.size, j * 5 + 4, none⟩) yG).trans c9⟩))
                        have HW2 : Hid (Wt w4 wa _ (keptOf (ky F3 T3) (tgt C E S) n) (cnt (ky F3 T3) j)) := HW.out.later (bel_undrew ba)
                        clear fa ba c0 c1 c2 c3 c4 c5 c6 c7 c8 c9
                        go_wp2
                        go_roundw
                        case rel =>
                          refine ⟨rfl, i + 1, by omega, by omega, by go_num, HW2.out, fun i' h1 h2 e => ?_⟩
                          by_cases ei : i' = i
                          · subst ei; exact absurd e (of_decide_eq_false HN.out)
                          · exact HY.out i' h1 (by omega) e
                        case measure => simp [intOf]; omega
                      | true =>
                        have HN := hide hd
                        clear hd
                        go_wp2_with fail
                        go_region_held3 (fun w' => (w'.cell? ⟨w.heap.size, i * 5, none⟩ = some (.int .i64 (F3 i)) ∧ w'.cell? ⟨w.heap.size, i * 5 + 1, none⟩ = some (.int .i64 (T3 i)) ∧ w'.cell? ⟨w.heap.size, i * 5 + 2, none⟩ = some (.int .i64 (C i)) ∧ w'.cell? ⟨w.heap.size, i * 5 + 3, none⟩ = some (.int .i64 (E i)) ∧ w'.cell? ⟨w.heap.size, i * 5 + 4, none⟩ = some (.int .i64 (S i)) ∧ w'.cell? ⟨w.heap.size, j * 5, none⟩ = some (.int .i64 (F3 j)) ∧ w'.cell? ⟨w.heap.size, j * 5 + 1, none⟩ = some (.int .i64 (T3 j)) ∧ w'.cell? ⟨w.heap.size, j * 5 + 2, none⟩ = some (.int .i64 (C j)) ∧ w'.cell? ⟨w.heap.size, j * 5 + 3, none⟩ = some (.int .i64 (E j)) ∧ w'.cell? ⟨w.heap.size, j * 5 + 4, none⟩ = some (.int .i64 (S j))))
                          (first | assumption | (simp [go_sem, *]; done))
                          (first
                            | (go_at_call 6; refine (same_of true (F3 i) (T3 i) (C i) (E i) (S i) (F3 j) (T3 j) (C j) (E j) (S j) _ HN.out).mono ?_; rintro en wa ⟨rfl, ba⟩; have fa : (wa.cell? ⟨w.heap.size, i * 5, none⟩ = some (.int .i64 (F3 i)) ∧ wa.cell? ⟨w.heap.size, i * 5 + 1, none⟩ = some (.int .i64 (T3 i)) ∧ wa.cell? ⟨w.heap.size, i * 5 + 2, none⟩ = some (.int .i64 (C i)) ∧ wa.cell? ⟨w.heap.size, i * 5 + 3, none⟩ = some (.int .i64 (E i)) ∧ wa.cell? ⟨w.heap.size, i * 5 + 4, none⟩ = some (.int .i64 (S i)) ∧ wa.cell? ⟨w.heap.size, j * 5, none⟩ = some (.int .i64 (F3 j)) ∧ wa.cell? ⟨w.heap.size, j * 5 + 1, none⟩ = some (.int .i64 (T3 j)) ∧ wa.cell? ⟨w.heap.size, j * 5 + 2, none⟩ = some (.int .i64 (C j)) ∧ wa.cell? ⟨w.heap.size, j * 5 + 3, none⟩ = some (.int .i64 (E j)) ∧ wa.cell? ⟨w.heap.size, j * 5 + 4, none⟩ = some (.int .i64 (S j))) := ⟨(ba.cell (p := ⟨w.heap.size, i * 5, none⟩) yG).trans c0, (ba.cell (p := ⟨w.heap.size, i * 5 + 1, none⟩) yG).trans c1, (ba.cell (p := ⟨w.heap.size, i * 5 + 2, none⟩) yG).trans c2, (ba.cell (p := ⟨w.heap.size, i * 5 + 3, none⟩) yG).trans c3, (ba.cell (p := ⟨w.heap.size, i * 5 + 4, none⟩) yG).trans c4, (ba.cell (p := ⟨w.heap.size, j * 5, none⟩) yG).trans c5, (ba.cell (p := ⟨w.heap.size, j * 5 + 1, none⟩) yG).trans c6, (ba.cell (p := ⟨w.heap.size, j * 5 + 2, none⟩) yG).trans c7, (ba.cell (p := ⟨w.heap.size, j * 5 + 3, none⟩) yG).trans c8, (ba.cell (p := ⟨w.heap.size, j * 5 + 4, none⟩) yG).trans c9⟩))
                        have HW2 : Hid (Wt w4 wa _ (keptOf (ky F3 T3) (tgt C E S) n) (cnt (ky F3 T3) j)) := HW.out.later (bel_undrew ba)
                        clear fa ba c0 c1 c2 c3 c4 c5 c6 c7 c8 c9 HW
                        go_wp2_with fail
                        go_loopw [15, 16] (fun f t wr => f = .bool true ∧ ∃ m : Nat, m ≤ n ∧ t = .int .i64 m ∧ Wt w4 wr u10 (keptOf (ky F3 T3) (tgt C E S) n) (cnt (ky F3 T3) j) ∧ Hid (∀ m', m' < m → ky F3 T3 m' = ky F3 T3 i → tgt C E S m' i = false ∧ (m' < i → eqt C E S m' i = false))) (fun _ t _ => n - (intOf t).toNat)
                        case atStart => exact ⟨rfl, 0, Nat.zero_le _, rfl, HW2.out, fun m' h => by omega⟩
                        case round =>
                          obtain ⟨rfl, m, hm, rfl, hW, HV⟩ := hrel
                          clear HW2
                          by_cases hmn : m < n
                          · skip
                            have c0 : wr.cell? ⟨w.heap.size, m * 5, none⟩ = some (.int .i64 (F3 m)) := (hW.1.cell (p := ⟨w.heap.size, m * 5, none⟩) hG4).trans (HQ.out.prs.f m hmn)
                            have c1 : wr.cell? ⟨w.heap.size, m * 5 + 1, none⟩ = some (.int .i64 (T3 m)) := (hW.1.cell (p := ⟨w.heap.size, m * 5 + 1, none⟩) hG4).trans (HQ.out.prs.t m hmn)
                            have c2 : wr.cell? ⟨w.heap.size, m * 5 + 2, none⟩ = some (.int .i64 (C m)) := (hW.1.cell (p := ⟨w.heap.size, m * 5 + 2, none⟩) hG4).trans (HQ.out.prs.c m hmn)
                            have c3 : wr.cell? ⟨w.heap.size, m * 5 + 3, none⟩ = some (.int .i64 (E m)) := (hW.1.cell (p := ⟨w.heap.size, m * 5 + 3, none⟩) hG4).trans (HQ.out.prs.e m hmn)
                            have c4 : wr.cell? ⟨w.heap.size, m * 5 + 4, none⟩ = some (.int .i64 (S m)) := (hW.1.cell (p := ⟨w.heap.size, m * 5 + 4, none⟩) hG4).trans (HQ.out.prs.s m hmn)
                            have c5 : wr.cell? ⟨w.heap.size, i * 5, none⟩ = some (.int .i64 (F3 i)) := (hW.1.cell (p := ⟨w.heap.size, i * 5, none⟩) hG4).trans (HQ.out.prs.f i hin)
                            have c6 : wr.cell? ⟨w.heap.size, i * 5 + 1, none⟩ = some (.int .i64 (T3 i)) := (hW.1.cell (p := ⟨w.heap.size, i * 5 + 1, none⟩) hG4).trans (HQ.out.prs.t i hin)
                            have c7 : wr.cell? ⟨w.heap.size, i * 5 + 2, none⟩ = some (.int .i64 (C i)) := (hW.1.cell (p := ⟨w.heap.size, i * 5 + 2, none⟩) hG4).trans (HQ.out.prs.c i hin)
                            have c8 : wr.cell? ⟨w.heap.size, i * 5 + 3, none⟩ = some (.int .i64 (E i)) := (hW.1.cell (p := ⟨w.heap.size, i * 5 + 3, none⟩) hG4).trans (HQ.out.prs.e i hin)
                            have c9 : wr.cell? ⟨w.heap.size, i * 5 + 4, none⟩ = some (.int .i64 (S i)) := (hW.1.cell (p := ⟨w.heap.size, i * 5 + 4, none⟩) hG4).trans (HQ.out.prs.s i hin)
                            have yG : w.heap.size < wr.heap.size := Nat.lt_of_lt_of_le hG4 hW.1.size
                            have HW := hide hW
                            clear hW
                            cases hd : decide ((F3 m, T3 m) = (F3 i, T3 i)) with
                            | false =>
                              have HN2 := hide hd
                              clear hd
                              go_wp2_with fail
                              go_region_held3 (fun w' => (w'.cell? ⟨w.heap.size, m * 5, none⟩ = some (.int .i64 (F3 m)) ∧ w'.cell? ⟨w.heap.size, m * 5 + 1, none⟩ = some (.int .i64 (T3 m)) ∧ w'.cell? ⟨w.heap.size, m * 5 + 2, none⟩ = some (.int .i64 (C m)) ∧ w'.cell? ⟨w.heap.size, m * 5 + 3, none⟩ = some (.int .i64 (E m)) ∧ w'.cell? ⟨w.heap.size, m * 5 + 4, none⟩ = some (.int .i64 (S m)) ∧ w'.cell? ⟨w.heap.size, i * 5, none⟩ = some (.int .i64 (F3 i)) ∧ w'.cell? ⟨w.heap.size, i * 5 + 1, none⟩ = some (.int .i64 (T3 i)) ∧ w'.cell? ⟨w.heap.size, i * 5 + 2, none⟩ = some (.int .i64 (C i)) ∧ w'.cell? ⟨w.heap.size, i * 5 + 3, none⟩ = some (.int .i64 (E i)) ∧ w'.cell? ⟨w.heap.size, i * 5 + 4, none⟩ = some (.int .i64 (S i))))
                                (first | assumption | (simp [go_sem, *]; done))
                                (first
                                  | (go_at_call 6; refine (same_of false (F3 m) (T3 m) (C m) (E m) (S m) (F3 i) (T3 i) (C i) (E i) (S i) _ HN2.out).mono ?_; rintro en wa ⟨rfl, ba⟩; have fa : (wa.cell? ⟨w.heap.size, m * 5, none⟩ = some (.int .i64 (F3 m)) ∧ wa.cell? ⟨w.heap.size, m * 5 + 1, none⟩ = some (.int .i64 (T3 m)) ∧ wa.cell? ⟨w.heap.size, m * 5 + 2, none⟩ = some (.int .i64 (C m)) ∧ wa.cell? ⟨w.heap.size, m * 5 + 3, none⟩ = some (.int .i64 (E m)) ∧ wa.cell? ⟨w.heap.size, m * 5 + 4, none⟩ = some (.int .i64 (S m)) ∧ wa.cell? ⟨w.heap.size, i * 5, none⟩ = some (.int .i64 (F3 i)) ∧ wa.cell? ⟨w.heap.size, i * 5 + 1, none⟩ = some (.int .i64 (T3 i)) ∧ wa.cell? ⟨w.heap.size, i * 5 + 2, none⟩ = some (.int .i64 (C i)) ∧ wa.cell? ⟨w.heap.size, i * 5 + 3, none⟩ = some (.int .i64 (E i)) ∧ wa.cell? ⟨w.heap.size, i * 5 + 4, none⟩ = some (.int .i64 (S i))) := ⟨(ba.cell (p := ⟨w.heap.size, m * 5, none⟩) yG).trans c0, (ba.cell (p := ⟨w.heap.size, m * 5 + 1, none⟩) yG).trans c1, (ba.cell (p := ⟨w.heap.size, m * 5 + 2, none⟩) yG).trans c2, (ba.cell (p := ⟨w.heap.size, m * 5 + 3, none⟩) yG).trans c3, (ba.cell (p := ⟨w.heap.size, m * 5 + 4, none⟩) yG).trans c4, (ba.cell (p := ⟨w.heap.size, i * 5, none⟩) yG).trans c5, (ba.cell (p := ⟨w.heap.size, i * 5 + 1, none⟩) yG).trans c6, (ba.cell (p := ⟨w.heap.size, i * 5 + 2, none⟩) yG).trans c7, (ba.cell (p := ⟨w.heap.size, i * 5 + 3, none⟩) yG).trans c8, (ba.cell (p := ⟨w.heap.size, i * 5 + 4, none⟩) yG).trans c9⟩))
                              have HW3 : Hid (Wt w4 wa u10 (keptOf (ky F3 T3) (tgt C E S) n) (cnt (ky F3 T3) j)) := HW.out.later (bel_undrew ba)
                              clear fa ba c0 c1 c2 c3 c4 c5 c6 c7 c8 c9
                              go_wp2
                              go_roundw
                              case rel =>
                                refine ⟨rfl, m + 1, by omega, by go_num, HW3.out, fun m' h e => ?_⟩
                                by_cases em : m' = m
                                · subst em; exact absurd e (of_decide_eq_false HN2.out)
                                · exact HV.out m' (by omega) e
                              case measure => simp [intOf]; omega
                            | true =>
                              have HN2 := hide hd
                              clear hd
                              go_wp2_with fail
                              go_region_held3 (fun w' => (w'.cell? ⟨w.heap.size, m * 5, none⟩ = some (.int .i64 (F3 m)) ∧ w'.cell? ⟨w.heap.size, m * 5 + 1, none⟩ = some (.int .i64 (T3 m)) ∧ w'.cell? ⟨w.heap.size, m * 5 + 2, none⟩ = some (.int .i64 (C m)) ∧ w'.cell? ⟨w.heap.size, m * 5 + 3, none⟩ = some (.int .i64 (E m)) ∧ w'.cell? ⟨w.heap.size, m * 5 + 4, none⟩ = some (.int .i64 (S m)) ∧ w'.cell? ⟨w.heap.size, i * 5, none⟩ = some (.int .i64 (F3 i)) ∧ w'.cell? ⟨w.heap.size, i * 5 + 1, none⟩ = some (.int .i64 (T3 i)) ∧ w'.cell? ⟨w.heap.size, i * 5 + 2, none⟩ = some (.int .i64 (C i)) ∧ w'.cell? ⟨w.heap.size, i * 5 + 3, none⟩ = some (.int .i64 (E i)) ∧ w'.cell? ⟨w.heap.size, i * 5 + 4, none⟩ = some (.int .i64 (S i))))
                                (first | assumption | (simp [go_sem, *]; done))
                                (first
                                  | (go_at_call 6; refine (same_of true (F3 m) (T3 m) (C m) (E m) (S m) (F3 i) (T3 i) (C i) (E i) (S i) _ HN2.out).mono ?_; rintro en wa ⟨rfl, ba⟩; have fa : (wa.cell? ⟨w.heap.size, m * 5, none⟩ = some (.int .i64 (F3 m)) ∧ wa.cell? ⟨w.heap.size, m * 5 + 1, none⟩ = some (.int .i64 (T3 m)) ∧ wa.cell? ⟨w.heap.size, m * 5 + 2, none⟩ = some (.int .i64 (C m)) ∧ wa.cell? ⟨w.heap.size, m * 5 + 3, none⟩ = some (.int .i64 (E m)) ∧ wa.cell? ⟨w.heap.size, m * 5 + 4, none⟩ = some (.int .i64 (S m)) ∧ wa.cell? ⟨w.heap.size, i * 5, none⟩ = some (.int .i64 (F3 i)) ∧ wa.cell? ⟨w.heap.size, i * 5 + 1, none⟩ = some (.int .i64 (T3 i)) ∧ wa.cell? ⟨w.heap.size, i * 5 + 2, none⟩ = some (.int .i64 (C i)) ∧ wa.cell? ⟨w.heap.size, i * 5 + 3, none⟩ = some (.int .i64 (E i)) ∧ wa.cell? ⟨w.heap.size, i * 5 + 4, none⟩ = some (.int .i64 (S i))) := ⟨(ba.cell (p := ⟨w.heap.size, m * 5, none⟩) yG).trans c0, (ba.cell (p := ⟨w.heap.size, m * 5 + 1, none⟩) yG).trans c1, (ba.cell (p := ⟨w.heap.size, m * 5 + 2, none⟩) yG).trans c2, (ba.cell (p := ⟨w.heap.size, m * 5 + 3, none⟩) yG).trans c3, (ba.cell (p := ⟨w.heap.size, m * 5 + 4, none⟩) yG).trans c4, (ba.cell (p := ⟨w.heap.size, i * 5, none⟩) yG).trans c5, (ba.cell (p := ⟨w.heap.size, i * 5 + 1, none⟩) yG).trans c6, (ba.cell (p := ⟨w.heap.size, i * 5 + 2, none⟩) yG).trans c7, (ba.cell (p := ⟨w.heap.size, i * 5 + 3, none⟩) yG).trans c8, (ba.cell (p := ⟨w.heap.size, i * 5 + 4, none⟩) yG).trans c9⟩))
                              have HW3 : Hid (Wt w4 wa u10 (keptOf (ky F3 T3) (tgt C E S) n) (cnt (ky F3 T3) j)) := HW.out.later (bel_undrew ba)
                              have HA : Hid (Ats w wa w.heap.size A O n n P F3 T3 C E S) := HQ.out.later HW3.out.1
                              clear fa ba c0 c1 c2 c3 c4 c5 c6 c7 c8 c9 HW
                              cases ht : tgt C E S m i with
                              | true =>
                                have HT := hide ht
                                clear ht
                                go_wp2_with (go_at_call 7; refine (ats_lower HA.out m i hmn hin hn true HT.out).mono ?_; rintro en wb ⟨rfl, kk, rfl⟩)
                                have HW4 : Hid (Wt w4 (wa.drewN kk) u10 (keptOf (ky F3 T3) (tgt C E S) n) (cnt (ky F3 T3) j)) := HW3.out.later below_dn
                                go_wp2
                                go_roundw
                                case rel =>
                                  refine ⟨rfl, i + 1, by omega, by omega, by go_num, HW4.out, fun i' h1 h2 e => ?_⟩
                                  by_cases ei : i' = i
                                  · subst ei
                                    intro hok
                                    have hq := hok m hmn (of_decide_eq_true HN2.out)
                                    rw [HT.out] at hq; exact absurd hq.1 (by simp)
                                  · exact HY.out i' h1 (by omega) e
                                case measure => simp [intOf]; omega
                              | false =>
                                have HT := hide ht
                                clear ht
                                by_cases hmi : m < i
                                · have dmi : decide ((m : Int) < (i : Int)) = true := by simp; omega
                                  have dmi' : decide (m < i) = true := by simpa using hmi
                                  cases hq : eqt C E S m i with
                                  | true =>
                                    have HE := hide hq
                                    clear hq
                                    go_wp2_with (go_at_call 7; refine (ats_lower HA.out m i hmn hin hn false HT.out).mono ?_; rintro en wb ⟨rfl, kk, rfl⟩)
                                    have HA2 : Hid (Ats w (wa.drewN kk) w.heap.size A O n n P F3 T3 C E S) := HA.out.later below_dn
                                    go_wp2_with (go_at_call 8; refine (ats_equal HA2.out m i hmn hin hn true HE.out).mono ?_; rintro en wc ⟨rfl, kk2, rfl⟩)
                                    have HW4 : Hid (Wt w4 (wa.drewN (kk + kk2)) u10 (keptOf (ky F3 T3) (tgt C E S) n) (cnt (ky F3 T3) j)) := HW3.out.later below_dn
                                    go_wp2
                                    go_roundw
                                    case rel =>
                                      refine ⟨rfl, i + 1, by omega, by omega, by go_num, HW4.out, fun i' h1 h2 e => ?_⟩
                                      by_cases ei : i' = i
                                      · subst ei
                                        intro hok
                                        have hq := hok m hmn (of_decide_eq_true HN2.out)
                                        have hq2 := hq.2 hmi
                                        rw [HE.out] at hq2
                                        exact absurd hq2 (by simp)
                                      · exact HY.out i' h1 (by omega) e
                                    case measure => simp [intOf]; omega
                                  | false =>
                                    have HE := hide hq
                                    clear hq
                                    go_wp2_with (go_at_call 7; refine (ats_lower HA.out m i hmn hin hn false HT.out).mono ?_; rintro en wb ⟨rfl, kk, rfl⟩)
                                    have HA2 : Hid (Ats w (wa.drewN kk) w.heap.size A O n n P F3 T3 C E S) := HA.out.later below_dn
                                    go_wp2_with (go_at_call 8; refine (ats_equal HA2.out m i hmn hin hn false HE.out).mono ?_; rintro en wc ⟨rfl, kk2, rfl⟩)
                                    have HW4 : Hid (Wt w4 (wa.drewN (kk + kk2)) u10 (keptOf (ky F3 T3) (tgt C E S) n) (cnt (ky F3 T3) j)) := HW3.out.later below_dn
                                    go_wp2
                                    go_roundw
                                    case rel =>
                                      refine ⟨rfl, m + 1, by omega, by go_num, HW4.out, fun m' h e => ?_⟩
                                      by_cases em : m' = m
                                      · subst em; exact ⟨HT.out, fun _ => HE.out⟩
                                      · exact HV.out m' (by omega) e
                                    case measure => simp [intOf]; omega
                                · have dmi : decide ((m : Int) < (i : Int)) = false := by simp; omega
                                  have dmi' : decide (m < i) = false := by simpa using hmi
                                  go_wp2_with (go_at_call 7; refine (ats_lower HA.out m i hmn hin hn false HT.out).mono ?_; rintro en wb ⟨rfl, kk, rfl⟩)
                                  have HW4 : Hid (Wt w4 (wa.drewN kk) u10 (keptOf (ky F3 T3) (tgt C E S) n) (cnt (ky F3 T3) j)) := HW3.out.later below_dn
                                  go_wp2
                                  go_roundw
                                  case rel =>
                                    refine ⟨rfl, m + 1, by omega, by go_num, HW4.out, fun m' h e => ?_⟩
                                    by_cases em : m' = m
                                    · subst em; exact ⟨HT.out, fun h => absurd h hmi⟩
                                    · exact HV.out m' (by omega) e
                                  case measure => simp [intOf]; omega
                          · have hmn' : n = m := by omega
                            subst hmn'
                            have hOk : Ok F3 T3 C E S n i := fun m' h e => HV.out m' h e
                            obtain ⟨_, q, hq1, hq2, hq3, hq4, hq5⟩ := HWI.out j hsn HFo.out
                            have hiq : i = q := ok_one F3 T3 C E S hOk hq5 hin hq3 ((of_decide_eq_true HN.out).trans hq4.symm)
                            subst hiq
                            have hts := HTS.out j _ hq1 HFo.out
                            have hlen : ((keptOf (ky F3 T3) (tgt C E S) n).take (cnt (ky F3 T3) j)).length ≤ n := by
                              have := HLn.out
                              rw [List.length_take]; omega
                            clear hOk hq1 hq2 hq3 hq4 hq5 hmn hm HV
                            obtain ⟨ao, cp, rfl⟩ := owns_isSlice hW.2
                            have HB := hide hW.1
                            have HR := hide hW.2
                            have HST := hide hts
                            clear hW hts
                            obtain ⟨i0, hi0, hz0, hz1, hz2⟩ := info_parts info3
                            have hsz : w4.heap.size ≤ wr.heap.size := HB.out.size
                            generalize hL : (keptOf (ky F3 T3) (tgt C E S) n).take (cnt (ky F3 T3) j) = L at *
                            go_wp2_with (at_builtin; go_must (refine wpList_append_own_at _ rfl _ _ 30 rfl w4.heap.size 3 i0 (.int .i64 0) 1 8 Yba.underlying30 hi0 hz0 hz1 hz2 rfl (by decide) _ _ _ rfl (HR.out.alloc _) ⟨wr.heap.size, 0, none⟩ 1 1 [.int .i64 (i : Nat)] rfl rfl (cell_one_new _ _ _) (ints_oneCell .i64 [(i : Int)]) (by unfold maxLen; omega) (by omega) (by simp; omega) ?_))
                            intro v' w2 hown2 hgrow2 _ hloc
                            have HG2 := hide (And.intro hown2 hgrow2)
                            clear hown2 hgrow2 hloc hi0 hz0 hz1 hz2
                            go_wp2
                            go_roundw
                            case rel =>
                              obtain ⟨hown2, hgrow2⟩ := HG2.out
                              refine ⟨j + 1, by omega, by go_num, ?_, ?_⟩
                              · exact (HB.out.alloc hsz _).grown hgrow2 (by simp; omega) (fun z hz => (HR.out.lt z hz).1)
                              · rw [HST.out]
                                simpa [VS] using hown2
                            case measure => simp [intOf]; omega
                    · exfalso
                      obtain ⟨_, q, _, h1, h2, h3, h4⟩ := HWI.out j hsn HFo.out
                      exact HY.out q h1 (by omega) h3 h4
            · have hsn' : n = s := by omega
              subst hsn'
              clear hsn hs
              have hrow := hW.2
              rw [HTA.out] at hrow
              have HQ2 : Hid (Ats w wr w.heap.size A O n n P F3 T3 C E S) := HQ.out.later hW.1
              clear hW HTA HTY HTS HWI HQ
              obtain ⟨ao, cp, rfl⟩ := owns_isSlice hrow
              have HR := hide hrow
              clear hrow
              have hlen := HLn.out
              have hgood := (kept_good F3 T3 C E S n)
              have hL0 : 0 < (keptOf (ky F3 T3) (tgt C E S) n).length := by
                obtain ⟨j, hj, _⟩ := hgood.all 0 hn0
                exact List.length_pos_of_mem hj
              clear hgood
              go_wp2_with (go_at_call 9; refine (tightest_any w.heap.size n n F3 T3 C E S wr hn HQ2.out.prs rF3 rT3 rC rE rS).mono ?_; rintro en wz ⟨v, rfl, hrowz, hbz⟩; obtain ⟨az, cz, rfl⟩ := owns_isSlice hrowz)
              obtain ⟨g1, rfl, _, hg1⟩ := owns_pos HR.out hL0
              obtain ⟨g2, rfl, _, hg2⟩ := owns_pos hrowz hL0
              have hg1' : g1 < wz.heap.size := Nat.lt_of_lt_of_le hg1 hbz.size
              have HC1 : Hid (∀ j, j < (keptOf (ky F3 T3) (tgt C E S) n).length → wz.cell? ⟨g1, j, none⟩ = some (.int .i64 (((keptOf (ky F3 T3) (tgt C E S) n).getD j 0 : Nat) : Int))) := fun j hj => by
                rw [hbz.cell (p := ⟨g1, j, none⟩) hg1, HR.out.cellAt j (by omega)]
                simp [VS, List.getD, hj]
              have HC2 : Hid (∀ j, j < (keptOf (ky F3 T3) (tgt C E S) n).length → wz.cell? ⟨g2, j, none⟩ = some (.int .i64 (((keptOf (ky F3 T3) (tgt C E S) n).getD j 0 : Nat) : Int))) := fun j hj => by
                rw [hrowz.cellAt j (by omega)]
                simp [VS, List.getD, hj]
              have HBZ : Hid (Below w.heap.size w wz) := HQ2.out.bel.trans (hbz.mono HQ2.out.bel.size)
              clear hbz hrowz HR HQ2 hg1 rF3 rT3
              generalize keptOf (ky F3 T3) (tgt C E S) n = L at *
              generalize L.length = m at *
              go_loopw [18] (fun t wr => ∃ k : Nat, k ≤ m ∧ t = .int .i64 k ∧ ∃ q, wr = wz.drewN q) (fun t _ => m - (intOf t).toNat)
              case atStart => exact ⟨0, Nat.zero_le _, rfl, 0, rfl⟩
              case round =>
                obtain ⟨k, hk, rfl, qq, rfl⟩ := hrel
                by_cases hkm : k < m
                · have c1 := HC1.out k hkm
                  have c2 := HC2.out k hkm
                  generalize L.getD k 0 = q at *
                  have e1 : ((q : Int) != (q : Int)) = false := by simp
                  have hkm' : (k : Int) < (m : Int) := by omega
                  go_wp2
                  go_quiet (fail)
                  go_wp2
                  go_roundw
                  case rel => exact ⟨k + 1, by omega, by go_num, _, rfl⟩
                  case measure => simp [intOf]; omega
                · go_wp2
                  go_ret
                  exact ⟨rfl, HBZ.out.trans (below_dn.mono HBZ.out.size)⟩
end Go.Proofs.Ybulkbabq
