import Derived.Test.YbulkbabqAts
namespace Go.Proofs.Ybulkbabq
open Go.ChangeShapes Go.WideShapes Go.ChangeAt Go.RowKit Go.Maps
set_option linter.unusedVariables false

set_option maxHeartbeats 4000000 in
set_option maxRecDepth 100000 in
theorem lowest_zero (a : Option Addr) (c : Nat) (w : World) :
    Calls Yba.prog 3 #[.slice a 0 c] w fun en w' => en = .returned (.bool true) ∧ Below w.heap.size w w' := by
  obtain ⟨i0, hi0, hz0, hz1, hz2⟩ := info_parts info24
  have F : Nat → Int := fun _ => 0
  have r0 : Rng 0 F := ⟨fun i hi => by omega, fun i hi => by omega⟩
  go_enter Yba.func3, Yba.ntmps3
  go_wp2_with (at_make; go_must (refine wpList_make_full _ rfl _ _ 22 rfl w.heap.size 24 i0 _ 5 Yba.underlying22 hi0 hz0 hz1 _ _ _ _ 0 rfl rfl rfl rfl ?q1 ?q2 ?q3 ?_))
  case q1 => rw [hz2]; omega
  case q2 => unfold maxLen; omega
  case q3 => exact Nat.le_refl _
  intro w1 hown hgrow
  have hb1 : Below w.heap.size w w1 := (Below.refl _ w).grown hgrow (Nat.le_refl _) (by intro k hk; cases hk)
  have hG := (hown.lt w.heap.size rfl).2
  have HB1 := hide hb1
  clear hown hgrow hb1 hi0 hz0 hz1 hz2
  go_wp2_with fail
  refine wp_loop_rounds 1 ?_
  rw [rounds_succ]
  obtain ⟨ia, hia, ia0, ia1, ia2⟩ := info_parts info28
  go_wp2_with (at_make; go_must (refine wpList_make_full _ rfl _ _ 26 rfl w1.heap.size 28 ia _ 1 Yba.underlying26 hia ia0 ia1 _ _ _ _ 0 rfl rfl rfl rfl ?q1 ?q2 ?q3 ?_))
  case q1 => rw [ia2]; omega
  case q2 => unfold maxLen; omega
  case q3 => exact Nat.le_refl _
  intro w2 hownA hgrowA
  have hb2 : Below w1.heap.size w1 w2 := (Below.refl _ w1).grown hgrowA (Nat.le_refl _) (by intro k hk; cases hk)
  obtain ⟨ib, hib, ib0, ib1, ib2⟩ := info_parts info4
  have HB2 : Hid (Below w.heap.size w w2) := HB1.out.trans (hb2.mono HB1.out.size)
  have hG2 : w.heap.size < w2.heap.size := Nat.lt_of_lt_of_le hG hb2.size
  clear hownA hgrowA hia ia0 ia1 ia2 hb2 HB1
  go_wp2_with (at_make; go_must (refine wpList_make_full _ rfl _ _ 27 rfl w2.heap.size 4 ib _ 1 Yba.underlying27 hib ib0 ib1 _ _ _ _ 0 rfl rfl rfl rfl ?q1 ?q2 ?q3 ?_))
  case q1 => rw [ib2]; omega
  case q2 => unfold maxLen; omega
  case q3 => exact Nat.le_refl _
  intro w3 hownO hgrowO
  have hb3 : Below w2.heap.size w2 w3 := (Below.refl _ w2).grown hgrowO (Nat.le_refl _) (by intro k hk; cases hk)
  have HB3 : Hid (Below w.heap.size w w3) := HB2.out.trans (hb3.mono HB2.out.size)
  have hG3 : w.heap.size < w3.heap.size := Nat.lt_of_lt_of_le hG2 hb3.size
  clear hownO hgrowO hib ib0 ib1 ib2 hb3 HB2
  go_wp2_with fail
  refine wp_loop_rounds 1 ?_
  rw [rounds_succ]
  go_wp2_with fail
  refine wp_loop_rounds 1 ?_
  rw [rounds_succ]
  have HP : Hid (Prs w3 w.heap.size 0 F F F F F) := ⟨hG3, fun i hi => by omega, fun i hi => by omega, fun i hi => by omega, fun i hi => by omega, fun i hi => by omega⟩
  go_wp2_with (go_at_call 9; refine (tightest_any w.heap.size 0 0 F F F F F w3 (by omega) HP.out r0 r0 r0 r0 r0).mono ?_; rintro en wz ⟨v, rfl, hrow, hbz⟩; simp only [keptOf, List.length_nil] at hrow; obtain ⟨az, cz, rfl⟩ := owns_isSlice hrow)
  have HBZ : Hid (Below w.heap.size w wz) := HB3.out.trans (hbz.mono HB3.out.size)
  clear hrow hbz HB3 HP
  refine wp_loop_rounds 1 ?_
  rw [rounds_succ]
  go_wp2
  go_ret
  exact ⟨rfl, HBZ.out⟩

set_option maxHeartbeats 4000000 in
set_option maxRecDepth 100000 in
theorem lowest_wide (a : Option Addr) (n c : Nat) (w : World) (h : ¬ n ≤ 256) :
    Calls Yba.prog 3 #[.slice a n c] w fun en w' => en = .returned (.bool true) ∧ Below w.heap.size w w' := by
  have d0 : decide ((256 : Int) < (n : Int)) = true := by simp; omega
  go_enter Yba.func3, Yba.ntmps3
  go_wp2
  go_ret
  exact ⟨rfl, Below.refl _ _⟩
end Go.Proofs.Ybulkbabq
