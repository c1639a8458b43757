import Derived.Test.YbulkbabqNatC
namespace Go.Proofs.Ybulkbabq
open Go.ChangeShapes Go.WideShapes Go.ChangeAt Go.RowKit
set_option linter.unusedVariables false

def sgn (X Y : Int) : Int := if X < Y then -1 else if Y < X then 1 else 0

set_option maxHeartbeats 1000000 in
set_option maxRecDepth 100000 in
theorem cmp_len (ax ay : Option Addr) (m n cx cy : Nat) (w : World) (hm : m ≤ 2) (hn : n ≤ 2) (h : m ≠ n ∨ m = 0) :
    Calls Yba.prog 24 #[.slice ax m cx, .slice ay n cy] w fun e w' => e = .returned (.int .i64 (sgn m n)) ∧ Eqv w w' := by
  by_cases h1 : m < n
  · have d0 : ((m : Int) == (n : Int)) = false := by simp; omega
    have d0' : (m == n) = false := by simp; omega
    have d1 : decide ((m : Int) < (n : Int)) = true := by simp; omega
    have hs : sgn m n = -1 := by unfold sgn; rw [if_pos (by omega)]
    clear h
    go_enter Yba.func24, Yba.ntmps24
    go_wp2
    go_ret
    exact ⟨by rw [hs]; rfl, Eqv.refl _⟩
  · by_cases h2 : n < m
    · have d0 : ((m : Int) == (n : Int)) = false := by simp; omega
      have d0' : (m == n) = false := by simp; omega
      have d1 : decide ((m : Int) < (n : Int)) = false := by simp; omega
      have d2 : decide ((n : Int) < (m : Int)) = true := by simp; omega
      have hs : sgn m n = 1 := by unfold sgn; rw [if_neg (by omega), if_pos (by omega)]
      clear h
      go_enter Yba.func24, Yba.ntmps24
      go_wp2
      go_ret
      exact ⟨by rw [hs]; rfl, Eqv.refl _⟩
    · obtain rfl : m = n := by omega
      obtain rfl : m = 0 := by omega
      go_enter Yba.func24, Yba.ntmps24
      go_wp2
      go_ret
      exact ⟨by simp [sgn], Eqv.refl _⟩

set_option maxHeartbeats 1000000 in
set_option maxRecDepth 100000 in
theorem cmp_11 (p q cx cy : Nat) (x y : Int) (w : World) (c0 : w.cell? ⟨p, 0, none⟩ = some (.int .u64 x)) (c1 : w.cell? ⟨q, 0, none⟩ = some (.int .u64 y)) :
    Calls Yba.prog 24 #[.slice (some ⟨p, 0, none⟩) 1 cx, .slice (some ⟨q, 0, none⟩) 1 cy] w fun e w' => e = .returned (.int .i64 (sgn x y)) ∧ Eqv w w' := by
  rcases Int.lt_trichotomy x y with h1 | h1 | h1
  · have d1 : decide (x < y) = true := by simpa using h1
    have HS : Hid (sgn x y = -1) := by unfold Hid sgn; rw [if_pos (by omega)]
    clear h1
    go_enter Yba.func24, Yba.ntmps24
    go_wp2_with fail
    refine wp_loop_rounds 1 ?_
    rw [rounds_succ]
    go_wp2_with fail
    go_quiet (fail)
    go_wp2_with fail
    go_quiet (fail)
    go_wp2
    go_ret
    exact ⟨by rw [HS.out]; rfl, ⟨rfl, rfl, rfl, rfl⟩⟩
  · subst h1
    have HS : Hid (sgn x x = 0) := by simp [Hid, sgn]
    go_enter Yba.func24, Yba.ntmps24
    go_wp2_with fail
    refine wp_loop_rounds 1 ?_
    rw [rounds_succ]
    go_wp2_with fail
    go_quiet (fail)
    go_wp2_with fail
    go_quiet (fail)
    go_wp2_with fail
    go_quiet (fail)
    go_wp2
    go_ret
    exact ⟨by rw [HS.out]; rfl, ⟨rfl, rfl, rfl, rfl⟩⟩
  · have d1 : decide (x < y) = false := by simp; omega
    have d2 : decide (y < x) = true := by simpa using h1
    have HS : Hid (sgn x y = 1) := by unfold Hid sgn; rw [if_neg (by omega), if_pos (by omega)]
    clear h1
    go_enter Yba.func24, Yba.ntmps24
    go_wp2_with fail
    refine wp_loop_rounds 1 ?_
    rw [rounds_succ]
    go_wp2_with fail
    go_quiet (fail)
    go_wp2_with fail
    go_quiet (fail)
    go_wp2_with fail
    go_quiet (fail)
    go_wp2
    go_ret
    exact ⟨by rw [HS.out]; rfl, ⟨rfl, rfl, rfl, rfl⟩⟩

set_option maxHeartbeats 1000000 in
set_option maxRecDepth 100000 in
theorem cmp_22e (p q cx cy : Nat) (x y z : Int) (w : World) (c0 : w.cell? ⟨p, 0, none⟩ = some (.int .u64 x)) (c1 : w.cell? ⟨q, 0, none⟩ = some (.int .u64 y)) (c2 : w.cell? ⟨p, 1, none⟩ = some (.int .u64 z)) (c3 : w.cell? ⟨q, 1, none⟩ = some (.int .u64 z)) :
    Calls Yba.prog 24 #[.slice (some ⟨p, 0, none⟩) 2 cx, .slice (some ⟨q, 0, none⟩) 2 cy] w fun e w' => e = .returned (.int .i64 (sgn x y)) ∧ Eqv w w' := by
  rcases Int.lt_trichotomy x y with h1 | h1 | h1
  · have d1 : decide (x < y) = true := by simpa using h1
    have HS : Hid (sgn x y = -1) := by unfold Hid sgn; rw [if_pos (by omega)]
    clear h1
    go_enter Yba.func24, Yba.ntmps24
    go_wp2_with fail
    refine wp_loop_rounds 2 ?_
    rw [rounds_succ]
    go_wp2_with fail
    go_quiet (fail)
    go_wp2_with fail
    rw [rounds_succ]
    go_wp2_with fail
    go_quiet (fail)
    go_wp2_with fail
    go_quiet (fail)
    go_wp2
    go_ret
    exact ⟨by rw [HS.out]; rfl, ⟨rfl, rfl, rfl, rfl⟩⟩
  · subst h1
    have HS : Hid (sgn x x = 0) := by simp [Hid, sgn]
    go_enter Yba.func24, Yba.ntmps24
    go_wp2_with fail
    refine wp_loop_rounds 2 ?_
    rw [rounds_succ]
    go_wp2_with fail
    go_quiet (fail)
    go_wp2_with fail
    rw [rounds_succ]
    go_wp2_with fail
    go_quiet (fail)
    go_wp2_with fail
    go_quiet (fail)
    go_wp2_with fail
    go_quiet (fail)
    go_wp2
    go_ret
    exact ⟨by rw [HS.out]; rfl, ⟨rfl, rfl, rfl, rfl⟩⟩
  · have d1 : decide (x < y) = false := by simp; omega
    have d2 : decide (y < x) = true := by simpa using h1
    have HS : Hid (sgn x y = 1) := by unfold Hid sgn; rw [if_neg (by omega), if_pos (by omega)]
    clear h1
    go_enter Yba.func24, Yba.ntmps24
    go_wp2_with fail
    refine wp_loop_rounds 2 ?_
    rw [rounds_succ]
    go_wp2_with fail
    go_quiet (fail)
    go_wp2_with fail
    rw [rounds_succ]
    go_wp2_with fail
    go_quiet (fail)
    go_wp2_with fail
    go_quiet (fail)
    go_wp2_with fail
    go_quiet (fail)
    go_wp2
    go_ret
    exact ⟨by rw [HS.out]; rfl, ⟨rfl, rfl, rfl, rfl⟩⟩

set_option maxHeartbeats 1000000 in
set_option maxRecDepth 100000 in
theorem cmp_22n (p q cx cy : Nat) (x y : Int) (w : World) (hne : x ≠ y) (c2 : w.cell? ⟨p, 1, none⟩ = some (.int .u64 x)) (c3 : w.cell? ⟨q, 1, none⟩ = some (.int .u64 y)) :
    Calls Yba.prog 24 #[.slice (some ⟨p, 0, none⟩) 2 cx, .slice (some ⟨q, 0, none⟩) 2 cy] w fun e w' => e = .returned (.int .i64 (sgn x y)) ∧ Eqv w w' := by
  have hb : (x == y) = false := by simpa using hne
  rcases Int.lt_trichotomy x y with h1 | h1 | h1
  · have d1 : decide (x < y) = true := by simpa using h1
    have HS : Hid (sgn x y = -1) := by unfold Hid sgn; rw [if_pos (by omega)]
    clear h1 hne
    go_enter Yba.func24, Yba.ntmps24
    go_wp2_with fail
    refine wp_loop_rounds 1 ?_
    rw [rounds_succ]
    go_wp2_with fail
    go_quiet (fail)
    go_wp2_with fail
    go_quiet (fail)
    go_wp2
    go_ret
    exact ⟨by rw [HS.out]; rfl, ⟨rfl, rfl, rfl, rfl⟩⟩
  · exact absurd h1 hne
  · have d1 : decide (x < y) = false := by simp; omega
    have d2 : decide (y < x) = true := by simpa using h1
    have HS : Hid (sgn x y = 1) := by unfold Hid sgn; rw [if_neg (by omega), if_pos (by omega)]
    clear h1 hne
    go_enter Yba.func24, Yba.ntmps24
    go_wp2_with fail
    refine wp_loop_rounds 1 ?_
    rw [rounds_succ]
    go_wp2_with fail
    go_quiet (fail)
    go_wp2_with fail
    go_quiet (fail)
    go_wp2_with fail
    go_quiet (fail)
    go_wp2
    go_ret
    exact ⟨by rw [HS.out]; rfl, ⟨rfl, rfl, rfl, rfl⟩⟩

theorem words_len (N : Int) (h : 0 ≤ N) : (N = 0 ∧ (words N).length = 0) ∨ (0 < N ∧ N < 18446744073709551616 ∧ (words N).length = 1) ∨ (18446744073709551616 ≤ N ∧ (words N).length = 2) := by
  unfold words
  by_cases h0 : N = 0
  · left; simp [h0]
  · by_cases h1 : N < 18446744073709551616
    · right; left; rw [if_neg h0, if_pos h1]; exact ⟨by omega, h1, rfl⟩
    · right; right; rw [if_neg h0, if_neg h1]; exact ⟨by omega, rfl⟩
theorem sgn_of {X Y x y : Int} (h1 : X < Y ↔ x < y) (h2 : Y < X ↔ y < x) : sgn x y = sgn X Y := by
  unfold sgn
  simp only [h1, h2]

theorem cmp_any (B B' : Nat) (xv yv : Value) (X Y : Int) (w : World) (x0 : 0 ≤ X) (y0 : 0 ≤ Y) (hx : Nt w B xv X) (hy : Nt w B' yv Y) :
    Calls Yba.prog 24 #[xv, yv] w fun e w' => e = .returned (.int .i64 (sgn X Y)) ∧ Eqv w w' := by
  obtain ⟨ax, cx, hxs⟩ := owns_isSlice hx
  obtain ⟨ay, cy, hys⟩ := owns_isSlice hy
  have lx := words_len X x0
  have ly := words_len Y y0
  by_cases hl : (words X).length ≠ (words Y).length ∨ (words X).length = 0
  · rw [hxs, hys]
    have := cmp_len ax ay (words X).length (words Y).length cx cy w (by omega) (by omega) hl
    rw [sgn_of (X := X) (Y := Y) (by omega) (by omega)] at this
    exact this
  · rcases lx with ⟨_, lx⟩ | ⟨x1, x2, lx⟩ | ⟨x1, lx⟩
    · omega
    · obtain ⟨p, cx, cu, rfl, _, rx, g0⟩ := nt_one hx x1 x2
      obtain ⟨q, cy, cu', rfl, _, ry, g1⟩ := nt_one hy (by omega) (by omega)
      exact cmp_11 p q cx cy X Y w (rx.cell g0) (ry.cell g1)
    · obtain ⟨p, cx, cu, rfl, _, rx, g0, g1⟩ := nt_two hx x1
      obtain ⟨q, cy, cu', rfl, _, ry, f0, f1⟩ := nt_two hy (by omega)
      by_cases he : hi X = hi Y
      · have := cmp_22e p q cx cy (lo X) (lo Y) (hi X) w (rx.cell g0) (ry.cell f0) (rx.cell g1) (by rw [he]; exact ry.cell f1)
        rw [sgn_of (X := X) (Y := Y) (by unfold hi at he; unfold lo; omega) (by unfold hi at he; unfold lo; omega)] at this
        exact this
      · have := cmp_22n p q cx cy (hi X) (hi Y) w he (rx.cell g1) (ry.cell f1)
        rw [sgn_of (X := X) (Y := Y) (by unfold hi at *; omega) (by unfold hi at *; omega)] at this
        exact this
end Go.Proofs.Ybulkbabq
