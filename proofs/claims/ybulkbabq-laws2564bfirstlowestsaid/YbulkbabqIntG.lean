import Derived.Test.YbulkbabqIntA
import Derived.LaidEqlPtr
namespace Go.Proofs.Ybulkbabq
open Go.ChangeShapes Go.WideShapes Go.ChangeAt Go.RowKit
set_option linter.unusedVariables false
def ab (N : Int) : Int := if N < 0 then -N else N
/-- A big.Int that holds N. -/
def IntAt (w : World) (B p : Nat) (N : Int) : Prop := ∃ v, Mag w B p (decide (N < 0)) v (ab N)

theorem neg_wrap (x : Int) (h0 : -9223372036854775808 ≤ x) (h1 : x < 0) : IntKind.u64.wrap (-IntKind.u64.wrap x) = -x := by
  have hw : ∀ y, IntKind.u64.wrap y = y % 18446744073709551616 := fun y => by simp [IntKind.wrap, IntKind.signed, IntKind.bits]
  rw [hw, hw]
  omega
theorem mk_int (w : World) (s : Bool) (A : Int) (a0 : 0 < A) (a1 : A < 18446744073709551616) : Mag ((w.alloc (.cells #[.int .u64 A] 55)).alloc (.cells #[.bool s, .slice (some ⟨w.heap.size, 0, none⟩) 1 1] 39)) w.heap.size (w.heap.size + 1) s (.slice (some ⟨w.heap.size, 0, none⟩) 1 1) A := by
  have e : (w.alloc (.cells #[.int .u64 A] 55)).heap.size = w.heap.size + 1 := by simp
  refine ⟨by omega, ?_, ?_⟩
  · rw [← e]; exact heap_alloc_new _ _
  · have h1 : Rw (w.alloc (.cells #[.int .u64 A] 55)) w.heap.size w.heap.size 1 #[.int .u64 A] := rw_new w w.heap.size #[.int .u64 A] (Nat.le_refl _) (by simp [maxLen])
    have h2 := h1.kept (World.grownBy_alloc _ (.cells #[.bool s, .slice (some ⟨w.heap.size, 0, none⟩) 1 1] 39) none) (by simp)
    exact nt_mk1 h2 (by simp) a0 a1 (Nat.le_refl _)

set_option maxHeartbeats 1000000 in
set_option maxRecDepth 100000 in
theorem newInt_any (x : Int) (w : World) (h0 : -9223372036854775808 ≤ x) (h1 : x ≤ 9223372036854775807) :
    Calls Yba.prog 12 #[.int .i64 x] w fun e w' => ∃ p, e = .returned (.pointer (some ⟨p, 0, none⟩)) ∧ IntAt w' w.heap.size p x ∧ Below w.heap.size w w' := by
  rcases Int.lt_trichotomy x 0 with hx | hx | hx
  · have d0 : decide (x < 0) = true := by simpa using hx
    have d1 : (x == 0) = false := by simp; omega
    go_enter Yba.func12, Yba.ntmps12
    go_wp2
    go_ret
    refine ⟨_, rfl, ⟨.slice (some ⟨w.heap.size, 0, none⟩) 1 1, ?_⟩, by go_grown⟩
    rw [neg_wrap x h0 hx, d0, show ab x = -x by unfold ab; rw [if_pos hx]]
    exact mk_int w true (-x) (by omega) (by omega)
  · subst hx
    go_enter Yba.func12, Yba.ntmps12
    go_wp2
    go_ret
    exact ⟨_, rfl, ⟨.slice none 0 0, Nat.le_refl _, heap_alloc_new _ _, World.ownsRow_nil _ _ _ _⟩, by go_grown⟩
  · have d0 : decide (x < 0) = false := by simp; omega
    have d1 : (x == 0) = false := by simp; omega
    go_enter Yba.func12, Yba.ntmps12
    go_wp2
    go_ret
    refine ⟨_, rfl, ⟨.slice (some ⟨w.heap.size, 0, none⟩) 1 1, ?_⟩, by go_grown⟩
    rw [d0, show ab x = x by unfold ab; rw [if_neg (by omega)]]
    exact mk_int w false x (by omega) (by omega)

theorem sz39 : (Yba.prog.info? 39).map (·.size) = some 2 := by kernel_rfl
theorem eql_same28 (w : World) (a : Addr) : (binOp .eql 28 (.pointer (some a)) (.pointer (some a))).run Yba.prog w = .ok (.bool true) w := by
  cases hq : Yba.prog.info? 39 with
  | none => have := sz39; simp [hq] at this
  | some j => exact run_eql_ptr_same w a Yba.underlying28 hq
theorem eql_other28 (w : World) {a b : Addr} {ca cb : Array Value} {ta tb : TypeId} (hne : a ≠ b) (ha : w.heap[a.block]? = some (.cells ca ta (0, 0))) (hb : w.heap[b.block]? = some (.cells cb tb (0, 0))) :
    (binOp .eql 28 (.pointer (some a)) (.pointer (some b))).run Yba.prog w = .ok (.bool false) w := by
  cases hq : Yba.prog.info? 39 with
  | none => have := sz39; simp [hq] at this
  | some j => exact run_eql_ptr_other w Yba.underlying28 hq (by have := sz39; simp [hq] at this; omega) hne ha hb

set_option maxHeartbeats 1000000 in
set_option maxRecDepth 100000 in
theorem icmp_same (p : Nat) (w : World) :
    Calls Yba.prog 14 #[.pointer (some ⟨p, 0, none⟩), .pointer (some ⟨p, 0, none⟩)] w fun e w' => e = .returned (.int .i64 0) ∧ Eqv w w' := by
  have h := fun w => eql_same28 w ⟨p, 0, none⟩
  go_enter Yba.func14, Yba.ntmps14
  go_wp2
  go_ret
  exact ⟨rfl, Eqv.refl _⟩

set_option maxHeartbeats 1000000 in
set_option maxRecDepth 100000 in
theorem icmp_signs (B p q : Nat) (s : Bool) (xv yv : Value) (A C : Int) (w : World) (hne : p ≠ q) (mx : Mag w B p s xv A) (my : Mag w B q (!s) yv C) :
    Calls Yba.prog 14 #[.pointer (some ⟨p, 0, none⟩), .pointer (some ⟨q, 0, none⟩)] w fun e w' => e = .returned (.int .i64 (if s then -1 else 1)) ∧ Eqv w w' := by
  have h := eql_other28 w (a := ⟨p, 0, none⟩) (b := ⟨q, 0, none⟩) (fun e => hne (by injection e)) mx.heap my.heap
  have a0 := mx.c0
  have b0 := my.c0
  clear mx my
  cases s with
  | true =>
    go_enter Yba.func14, Yba.ntmps14
    go_wp2_with fail
    go_quiet (fail)
    go_wp2
    go_ret
    exact ⟨rfl, ⟨rfl, rfl, rfl, rfl⟩⟩
  | false =>
    go_enter Yba.func14, Yba.ntmps14
    go_wp2_with fail
    go_quiet (fail)
    go_wp2
    go_ret
    exact ⟨rfl, ⟨rfl, rfl, rfl, rfl⟩⟩

set_option maxHeartbeats 1000000 in
set_option maxRecDepth 100000 in
theorem icmp_mags (B p q : Nat) (s : Bool) (xv yv : Value) (A C : Int) (w : World) (hne : p ≠ q) (mx : Mag w B p s xv A) (my : Mag w B q s yv C) (x0 : 0 ≤ A) (y0 : 0 ≤ C) :
    Calls Yba.prog 14 #[.pointer (some ⟨p, 0, none⟩), .pointer (some ⟨q, 0, none⟩)] w fun e w' => e = .returned (.int .i64 (if s then -(sgn A C) else sgn A C)) ∧ Eqv w w' := by
  have h := eql_other28 w (a := ⟨p, 0, none⟩) (b := ⟨q, 0, none⟩) (fun e => hne (by injection e)) mx.heap my.heap
  have a0 := mx.c0
  have b0 := my.c0
  have a1 := mx.c1
  have b1 := my.c1
  have HM := hide (And.intro mx my)
  have hs1 : -1 ≤ sgn A C := by unfold sgn; split <;> (try split) <;> omega
  have hs2 : sgn A C ≤ 1 := by unfold sgn; split <;> (try split) <;> omega
  clear mx my
  go_enter Yba.func14, Yba.ntmps14
  go_wp2_with fail
  go_quiet (fail)
  go_wp2_with fail
  have eW : Eqv w (w.drewN nq) := ⟨rfl, rfl, rfl, rfl⟩
  have mx := HM.out.1.eqv eW
  have my := HM.out.2.eqv eW
  have HEW := hide eW
  clear h a0 b0 a1 b1 HM eW
  generalize w.drewN nq = W at *
  have a1 := mx.c1
  have b1 := my.c1
  have a0 := mx.c0
  have b0 := my.c0
  have HM := hide (And.intro mx my)
  clear mx my
  go_region_held3 (fun w' => w'.cell? ⟨p, 1, none⟩ = some xv ∧ w'.cell? ⟨q, 1, none⟩ = some yv)
    (first | assumption | (simp [go_sem, *]; done))
    (first | (go_at_call 24; refine (cmp_any B B xv yv A C W.drew x0 y0 HM.out.1.nat HM.out.2.nat).mono ?_; rintro en wc ⟨rfl, ec⟩; have ec' : Eqv W wc := ⟨ec.heap, ec.os, ec.tape, ec.output⟩; have fx := (HM.out.1.eqv ec').c1; have fy := (HM.out.2.eqv ec').c1))
  have f0 := (HM.out.1.eqv ec').c0
  have HEC : Hid (Eqv w wc) := ⟨ec'.heap.trans HEW.out.heap, ec'.os.trans HEW.out.os, ec'.tape.trans HEW.out.tape, ec'.output.trans HEW.out.output⟩
  clear ec ec' HM HEW
  cases s with
  | true =>
    go_wp2
    go_ret
    exact ⟨rfl, HEC.out⟩
  | false =>
    go_wp2
    go_ret
    exact ⟨rfl, HEC.out⟩

theorem ab_nonneg (N : Int) : 0 ≤ ab N := by unfold ab; split <;> omega
theorem icmp_any (B p q : Nat) (X Y : Int) (w : World) (hx : IntAt w B p X) (hy : IntAt w B q Y) (he : p = q → X = Y) :
    Calls Yba.prog 14 #[.pointer (some ⟨p, 0, none⟩), .pointer (some ⟨q, 0, none⟩)] w fun e w' => e = .returned (.int .i64 (sgn X Y)) ∧ Eqv w w' := by
  by_cases hpq : p = q
  · subst hpq
    rw [he rfl, show sgn Y Y = 0 by simp [sgn]]
    exact icmp_same p w
  · obtain ⟨xv, mx⟩ := hx
    obtain ⟨yv, my⟩ := hy
    by_cases h1 : X < 0
    · by_cases h2 : Y < 0
      · simp only [h1, h2, decide_true] at mx my
        have := icmp_mags B p q true xv yv _ _ w hpq mx my (ab_nonneg X) (ab_nonneg Y)
        rw [show (if true = true then -(sgn (ab X) (ab Y)) else sgn (ab X) (ab Y)) = sgn X Y by
          unfold sgn ab; rw [if_pos h1, if_pos h2]; simp only [if_true]
          by_cases a : X < Y
          · rw [if_neg (by omega), if_pos (by omega), if_pos a]
          · by_cases b : Y < X
            · rw [if_pos (by omega), if_neg a, if_pos b]; rfl
            · rw [if_neg (by omega), if_neg (by omega), if_neg a, if_neg b]; rfl] at this
        exact this
      · simp only [h1, h2, decide_true, decide_false] at mx my
        have := icmp_signs B p q true xv yv _ _ w hpq mx my
        rw [show sgn X Y = -1 by unfold sgn; rw [if_pos (by omega)]]
        exact this
    · by_cases h2 : Y < 0
      · simp only [h1, h2, decide_true, decide_false] at mx my
        have := icmp_signs B p q false xv yv _ _ w hpq mx my
        rw [show sgn X Y = 1 by unfold sgn; rw [if_neg (by omega), if_pos (by omega)]]
        exact this
      · simp only [h1, h2, decide_false] at mx my
        have := icmp_mags B p q false xv yv _ _ w hpq mx my (ab_nonneg X) (ab_nonneg Y)
        rw [show ab X = X by unfold ab; rw [if_neg h1], show ab Y = Y by unfold ab; rw [if_neg h2]] at this
        exact this
end Go.Proofs.Ybulkbabq
