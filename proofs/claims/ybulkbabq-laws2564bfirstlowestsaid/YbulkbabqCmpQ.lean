import Derived.Test.YbulkbabqBigLim
namespace Go.Proofs.Ybulkbabq
open Go.ChangeShapes Go.WideShapes Go.ChangeAt Go.RowKit
set_option linter.unusedVariables false

theorem Nt.dn {w : World} {B : Nat} {v : Value} {A : Int} (h : Nt w B v A) (n : Nat) : Nt (w.drewN n) B v A := h.eqv ⟨rfl, rfl, rfl, rfl⟩

set_option maxHeartbeats 1000000 in
set_option maxRecDepth 100000 in
theorem cmp_lenQ (ax ay : Option Addr) (m n cx cy : Nat) (w : World) (hm : m ≤ 2) (hn : n ≤ 2) (h : m ≠ n ∨ m = 0) :
    Calls Yba.prog 24 #[.slice ax m cx, .slice ay n cy] w fun e w' => e = .returned (.int .i64 (sgn m n)) ∧ ∃ m, w' = w.drewN m := by
  by_cases h1 : m < n
  · have d0 : ((m : Int) == (n : Int)) = false := by simp; omega
    have d0' : (m == n) = false := by simp; omega
    have d1 : decide ((m : Int) < (n : Int)) = true := by simp; omega
    have hs : sgn m n = -1 := by unfold sgn; rw [if_pos (by omega)]
    clear h
    go_enter Yba.func24, Yba.ntmps24
    go_wp2
    go_ret
    exact ⟨by rw [hs]; rfl, 0, rfl⟩
  · by_cases h2 : n < m
    · have d0 : ((m : Int) == (n : Int)) = false := by simp; omega
      have d0' : (m == n) = false := by simp; omega
      have d1 : decide ((m : Int) < (n : Int)) = false := by simp; omega
      have d2 : decide ((n : Int) < (m : Int)) = true := by simp; omega
      have hs : sgn m n = 1 := by unfold sgn; rw [if_neg (by omega), if_pos (by omega)]
      clear h
      go_enter Yba.func24, Yba.ntmps24
      go_wp2
      go_ret
      exact ⟨by rw [hs]; rfl, 0, rfl⟩
    · obtain rfl : m = n := by omega
      obtain rfl : m = 0 := by omega
      go_enter Yba.func24, Yba.ntmps24
      go_wp2
      go_ret
      exact ⟨by simp [sgn], 0, rfl⟩

set_option maxHeartbeats 1000000 in
set_option maxRecDepth 100000 in
theorem cmp_11Q (p q cx cy : Nat) (x y : Int) (w : World) (c0 : w.cell? ⟨p, 0, none⟩ = some (.int .u64 x)) (c1 : w.cell? ⟨q, 0, none⟩ = some (.int .u64 y)) :
    Calls Yba.prog 24 #[.slice (some ⟨p, 0, none⟩) 1 cx, .slice (some ⟨q, 0, none⟩) 1 cy] w fun e w' => e = .returned (.int .i64 (sgn x y)) ∧ ∃ m, w' = w.drewN m := by
  rcases Int.lt_trichotomy x y with h1 | h1 | h1
  · have d1 : decide (x < y) = true := by simpa using h1
    have HS : Hid (sgn x y = -1) := by unfold Hid sgn; rw [if_pos (by omega)]
    clear h1
    go_enter Yba.func24, Yba.ntmps24
    go_wp2_with fail
    refine wp_loop_rounds 1 ?_
    rw [rounds_succ]
    go_wp2_with fail
    go_quiet (fail)
    go_wp2_with fail
    go_quiet (fail)
    go_wp2
    go_ret
    exact ⟨by rw [HS.out]; rfl, by (try simp only [World.drewN_drewN]); exact ⟨_, rfl⟩⟩
  · subst h1
    have HS : Hid (sgn x x = 0) := by simp [Hid, sgn]
    go_enter Yba.func24, Yba.ntmps24
    go_wp2_with fail
    refine wp_loop_rounds 1 ?_
    rw [rounds_succ]
    go_wp2_with fail
    go_quiet (fail)
    go_wp2_with fail
    go_quiet (fail)
    go_wp2_with fail
    go_quiet (fail)
    go_wp2
    go_ret
    exact ⟨by rw [HS.out]; rfl, by (try simp only [World.drewN_drewN]); exact ⟨_, rfl⟩⟩
  · have d1 : decide (x < y) = false := by simp; omega
    have d2 : decide (y < x) = true := by simpa using h1
    have HS : Hid (sgn x y = 1) := by unfold Hid sgn; rw [if_neg (by omega), if_pos (by omega)]
    clear h1
    go_enter Yba.func24, Yba.ntmps24
    go_wp2_with fail
    refine wp_loop_rounds 1 ?_
    rw [rounds_succ]
    go_wp2_with fail
    go_quiet (fail)
    go_wp2_with fail
    go_quiet (fail)
    go_wp2_with fail
    go_quiet (fail)
    go_wp2
    go_ret
    exact ⟨by rw [HS.out]; rfl, by (try simp only [World.drewN_drewN]); exact ⟨_, rfl⟩⟩

set_option maxHeartbeats 1000000 in
set_option maxRecDepth 100000 in
theorem cmp_22eQ (p q cx cy : Nat) (x y z : Int) (w : World) (c0 : w.cell? ⟨p, 0, none⟩ = some (.int .u64 x)) (c1 : w.cell? ⟨q, 0, none⟩ = some (.int .u64 y)) (c2 : w.cell? ⟨p, 1, none⟩ = some (.int .u64 z)) (c3 : w.cell? ⟨q, 1, none⟩ = some (.int .u64 z)) :
    Calls Yba.prog 24 #[.slice (some ⟨p, 0, none⟩) 2 cx, .slice (some ⟨q, 0, none⟩) 2 cy] w fun e w' => e = .returned (.int .i64 (sgn x y)) ∧ ∃ m, w' = w.drewN m := by
  rcases Int.lt_trichotomy x y with h1 | h1 | h1
  · have d1 : decide (x < y) = true := by simpa using h1
    have HS : Hid (sgn x y = -1) := by unfold Hid sgn; rw [if_pos (by omega)]
    clear h1
    go_enter Yba.func24, Yba.ntmps24
    go_wp2_with fail
    refine wp_loop_rounds 2 ?_
    rw [rounds_succ]
    go_wp2_with fail
    go_quiet (fail)
    go_wp2_with fail
    rw [rounds_succ]
    go_wp2_with fail
    go_quiet (fail)
    go_wp2_with fail
    go_quiet (fail)
    go_wp2
    go_ret
    exact ⟨by rw [HS.out]; rfl, by (try simp only [World.drewN_drewN]); exact ⟨_, rfl⟩⟩
  · subst h1
    have HS : Hid (sgn x x = 0) := by simp [Hid, sgn]
    go_enter Yba.func24, Yba.ntmps24
    go_wp2_with fail
    refine wp_loop_rounds 2 ?_
    rw [rounds_succ]
    go_wp2_with fail
    go_quiet (fail)
    go_wp2_with fail
    rw [rounds_succ]
    go_wp2_with fail
    go_quiet (fail)
    go_wp2_with fail
    go_quiet (fail)
    go_wp2_with fail
    go_quiet (fail)
    go_wp2
    go_ret
    exact ⟨by rw [HS.out]; rfl, by (try simp only [World.drewN_drewN]); exact ⟨_, rfl⟩⟩
  · have d1 : decide (x < y) = false := by simp; omega
    have d2 : decide (y < x) = true := by simpa using h1
    have HS : Hid (sgn x y = 1) := by unfold Hid sgn; rw [if_neg (by omega), if_pos (by omega)]
    clear h1
    go_enter Yba.func24, Yba.ntmps24
    go_wp2_with fail
    refine wp_loop_rounds 2 ?_
    rw [rounds_succ]
    go_wp2_with fail
    go_quiet (fail)
    go_wp2_with fail
    rw [rounds_succ]
    go_wp2_with fail
    go_quiet (fail)
    go_wp2_with fail
    go_quiet (fail)
    go_wp2_with fail
    go_quiet (fail)
    go_wp2
    go_ret
    exact ⟨by rw [HS.out]; rfl, by (try simp only [World.drewN_drewN]); exact ⟨_, rfl⟩⟩

set_option maxHeartbeats 1000000 in
set_option maxRecDepth 100000 in
theorem cmp_22nQ (p q cx cy : Nat) (x y : Int) (w : World) (hne : x ≠ y) (c2 : w.cell? ⟨p, 1, none⟩ = some (.int .u64 x)) (c3 : w.cell? ⟨q, 1, none⟩ = some (.int .u64 y)) :
    Calls Yba.prog 24 #[.slice (some ⟨p, 0, none⟩) 2 cx, .slice (some ⟨q, 0, none⟩) 2 cy] w fun e w' => e = .returned (.int .i64 (sgn x y)) ∧ ∃ m, w' = w.drewN m := by
  have hb : (x == y) = false := by simpa using hne
  rcases Int.lt_trichotomy x y with h1 | h1 | h1
  · have d1 : decide (x < y) = true := by simpa using h1
    have HS : Hid (sgn x y = -1) := by unfold Hid sgn; rw [if_pos (by omega)]
    clear h1 hne
    go_enter Yba.func24, Yba.ntmps24
    go_wp2_with fail
    refine wp_loop_rounds 1 ?_
    rw [rounds_succ]
    go_wp2_with fail
    go_quiet (fail)
    go_wp2_with fail
    go_quiet (fail)
    go_wp2
    go_ret
    exact ⟨by rw [HS.out]; rfl, by (try simp only [World.drewN_drewN]); exact ⟨_, rfl⟩⟩
  · exact absurd h1 hne
  · have d1 : decide (x < y) = false := by simp; omega
    have d2 : decide (y < x) = true := by simpa using h1
    have HS : Hid (sgn x y = 1) := by unfold Hid sgn; rw [if_neg (by omega), if_pos (by omega)]
    clear h1 hne
    go_enter Yba.func24, Yba.ntmps24
    go_wp2_with fail
    refine wp_loop_rounds 1 ?_
    rw [rounds_succ]
    go_wp2_with fail
    go_quiet (fail)
    go_wp2_with fail
    go_quiet (fail)
    go_wp2_with fail
    go_quiet (fail)
    go_wp2
    go_ret
    exact ⟨by rw [HS.out]; rfl, by (try simp only [World.drewN_drewN]); exact ⟨_, rfl⟩⟩

theorem cmp_anyQ (B B' : Nat) (xv yv : Value) (X Y : Int) (w : World) (x0 : 0 ≤ X) (y0 : 0 ≤ Y) (hx : Nt w B xv X) (hy : Nt w B' yv Y) :
    Calls Yba.prog 24 #[xv, yv] w fun e w' => e = .returned (.int .i64 (sgn X Y)) ∧ ∃ m, w' = w.drewN m := by
  obtain ⟨ax, cx, hxs⟩ := owns_isSlice hx
  obtain ⟨ay, cy, hys⟩ := owns_isSlice hy
  have lx := words_len X x0
  have ly := words_len Y y0
  by_cases hl : (words X).length ≠ (words Y).length ∨ (words X).length = 0
  · rw [hxs, hys]
    have := cmp_lenQ ax ay (words X).length (words Y).length cx cy w (by omega) (by omega) hl
    rw [sgn_of (X := X) (Y := Y) (by omega) (by omega)] at this
    exact this
  · rcases lx with ⟨_, lx⟩ | ⟨x1, x2, lx⟩ | ⟨x1, lx⟩
    · omega
    · obtain ⟨p, cx, cu, rfl, _, rx, g0⟩ := nt_one hx x1 x2
      obtain ⟨q, cy, cu', rfl, _, ry, g1⟩ := nt_one hy (by omega) (by omega)
      exact cmp_11Q p q cx cy X Y w (rx.cell g0) (ry.cell g1)
    · obtain ⟨p, cx, cu, rfl, _, rx, g0, g1⟩ := nt_two hx x1
      obtain ⟨q, cy, cu', rfl, _, ry, f0, f1⟩ := nt_two hy (by omega)
      by_cases he : hi X = hi Y
      · have := cmp_22eQ p q cx cy (lo X) (lo Y) (hi X) w (rx.cell g0) (ry.cell f0) (rx.cell g1) (by rw [he]; exact ry.cell f1)
        rw [sgn_of (X := X) (Y := Y) (by unfold hi at he; unfold lo; omega) (by unfold hi at he; unfold lo; omega)] at this
        exact this
      · have := cmp_22nQ p q cx cy (hi X) (hi Y) w he (rx.cell g1) (ry.cell f1)
        rw [sgn_of (X := X) (Y := Y) (by unfold hi at *; omega) (by unfold hi at *; omega)] at this
        exact this
set_option maxHeartbeats 1000000 in
set_option maxRecDepth 100000 in
theorem icmp_sameQ (p : Nat) (w : World) :
    Calls Yba.prog 14 #[.pointer (some ⟨p, 0, none⟩), .pointer (some ⟨p, 0, none⟩)] w fun e w' => e = .returned (.int .i64 0) ∧ ∃ m, w' = w.drewN m := by
  have h := fun w => eql_same28 w ⟨p, 0, none⟩
  go_enter Yba.func14, Yba.ntmps14
  go_wp2
  go_ret
  exact ⟨rfl, 0, rfl⟩

set_option maxHeartbeats 1000000 in
set_option maxRecDepth 100000 in
theorem icmp_signsQ (B p q : Nat) (s : Bool) (xv yv : Value) (A C : Int) (w : World) (hne : p ≠ q) (mx : Mag w B p s xv A) (my : Mag w B q (!s) yv C) :
    Calls Yba.prog 14 #[.pointer (some ⟨p, 0, none⟩), .pointer (some ⟨q, 0, none⟩)] w fun e w' => e = .returned (.int .i64 (if s then -1 else 1)) ∧ ∃ m, w' = w.drewN m := by
  have h := eql_other28 w (a := ⟨p, 0, none⟩) (b := ⟨q, 0, none⟩) (fun e => hne (by injection e)) mx.heap my.heap
  have a0 := mx.c0
  have b0 := my.c0
  clear mx my
  cases s with
  | true =>
    go_enter Yba.func14, Yba.ntmps14
    go_wp2_with fail
    go_quiet (fail)
    go_wp2
    go_ret
    exact ⟨rfl, by (try simp only [World.drewN_drewN]); exact ⟨_, rfl⟩⟩
  | false =>
    go_enter Yba.func14, Yba.ntmps14
    go_wp2_with fail
    go_quiet (fail)
    go_wp2
    go_ret
    exact ⟨rfl, by (try simp only [World.drewN_drewN]); exact ⟨_, rfl⟩⟩

set_option maxHeartbeats 1000000 in
set_option maxRecDepth 100000 in
theorem icmp_magsQ (B p q : Nat) (s : Bool) (xv yv : Value) (A C : Int) (w : World) (hne : p ≠ q) (mx : Mag w B p s xv A) (my : Mag w B q s yv C) (x0 : 0 ≤ A) (y0 : 0 ≤ C) :
    Calls Yba.prog 14 #[.pointer (some ⟨p, 0, none⟩), .pointer (some ⟨q, 0, none⟩)] w fun e w' => e = .returned (.int .i64 (if s then -(sgn A C) else sgn A C)) ∧ ∃ m, w' = w.drewN m := by
  have h := eql_other28 w (a := ⟨p, 0, none⟩) (b := ⟨q, 0, none⟩) (fun e => hne (by injection e)) mx.heap my.heap
  have a0 := mx.c0
  have b0 := my.c0
  have a1 := mx.c1
  have b1 := my.c1
  have HM := hide (And.intro mx my)
  have hs1 : -1 ≤ sgn A C := by unfold sgn; split <;> (try split) <;> omega
  have hs2 : sgn A C ≤ 1 := by unfold sgn; split <;> (try split) <;> omega
  clear mx my
  go_enter Yba.func14, Yba.ntmps14
  go_wp2_with fail
  go_quiet (fail)
  go_wp2_with fail
  have mx := HM.out.1.eqv (w' := w.drewN nq) ⟨rfl, rfl, rfl, rfl⟩
  have my := HM.out.2.eqv (w' := w.drewN nq) ⟨rfl, rfl, rfl, rfl⟩
  clear h a0 b0 a1 b1 HM
  generalize hWW : w.drewN nq = W at *
  have HW := hide hWW
  clear hWW
  have a1 := mx.c1
  have b1 := my.c1
  have a0 := mx.c0
  have HM := hide (And.intro mx my)
  clear mx my
  go_quiet (first | (go_at_call 24; refine Calls.quiet_of (cmp_anyQ B B xv yv A C _ x0 y0 (HM.out.1.nat.dn _) (HM.out.2.nat.dn _))))
  clear HM
  cases s with
  | true =>
    go_wp2
    go_ret
    exact ⟨rfl, by rw [← HW.out]; (try simp only [World.drewN_drewN]); exact ⟨_, rfl⟩⟩
  | false =>
    go_wp2
    go_ret
    exact ⟨rfl, by rw [← HW.out]; (try simp only [World.drewN_drewN]); exact ⟨_, rfl⟩⟩

theorem icmp_anyQ (B p q : Nat) (X Y : Int) (w : World) (hx : IntAt w B p X) (hy : IntAt w B q Y) (he : p = q → X = Y) :
    Calls Yba.prog 14 #[.pointer (some ⟨p, 0, none⟩), .pointer (some ⟨q, 0, none⟩)] w fun e w' => e = .returned (.int .i64 (sgn X Y)) ∧ ∃ m, w' = w.drewN m := by
  by_cases hpq : p = q
  · subst hpq
    rw [he rfl, show sgn Y Y = 0 by simp [sgn]]
    exact icmp_sameQ p w
  · obtain ⟨xv, mx⟩ := hx
    obtain ⟨yv, my⟩ := hy
    by_cases h1 : X < 0
    · by_cases h2 : Y < 0
      · simp only [h1, h2, decide_true] at mx my
        have := icmp_magsQ B p q true xv yv _ _ w hpq mx my (ab_nonneg X) (ab_nonneg Y)
        rw [show (if true = true then -(sgn (ab X) (ab Y)) else sgn (ab X) (ab Y)) = sgn X Y by
          unfold sgn ab; rw [if_pos h1, if_pos h2]; simp only [if_true]
          by_cases a : X < Y
          · rw [if_neg (by omega), if_pos (by omega), if_pos a]
          · by_cases b : Y < X
            · rw [if_pos (by omega), if_neg a, if_pos b]; rfl
            · rw [if_neg (by omega), if_neg (by omega), if_neg a, if_neg b]; rfl] at this
        exact this
      · simp only [h1, h2, decide_true, decide_false] at mx my
        have := icmp_signsQ B p q true xv yv _ _ w hpq mx my
        rw [show sgn X Y = -1 by unfold sgn; rw [if_pos (by omega)]]
        exact this
    · by_cases h2 : Y < 0
      · simp only [h1, h2, decide_true, decide_false] at mx my
        have := icmp_signsQ B p q false xv yv _ _ w hpq mx my
        rw [show sgn X Y = 1 by unfold sgn; rw [if_neg (by omega), if_pos (by omega)]]
        exact this
      · simp only [h1, h2, decide_false] at mx my
        have := icmp_magsQ B p q false xv yv _ _ w hpq mx my (ab_nonneg X) (ab_nonneg Y)
        rw [show ab X = X by unfold ab; rw [if_neg h1], show ab Y = Y by unfold ab; rw [if_neg h2]] at this
        exact this
end Go.Proofs.Ybulkbabq
