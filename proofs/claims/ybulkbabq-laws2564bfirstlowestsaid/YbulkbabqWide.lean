import Derived.Test.YbulkbabqProg
import Derived.Shelf.Spec.BitsCarry
import Derived.WalkKit
import Derived.ProofKit
import Derived.OpenShut
import Derived.Below
import Derived.Handy
import Derived.Deep.QuietTactic
import Derived.BigQuiet
import Derived.WalkSmall
import Derived.WalkSpells
import Derived.Deep.RegionHeld3
namespace Go.Proofs.Ybulkbabq
open Go.ChangeShapes Go.WideShapes Go.ChangeAt Go.RowKit
set_option linter.unusedVariables false

theorem hide {p : Prop} (h : p) : Hid p := h

/-- The two words of a number. -/
def hi (v : Int) : Int := v / 18446744073709551616
def lo (v : Int) : Int := v % 18446744073709551616
/-- The carry, the borrow, under names. -/
def car (x y : Int) : Int := (lo x + lo y) / 18446744073709551616
def bor (x y : Int) : Int := if lo x < lo y then 1 else 0
theorem lo_0 (v : Int) : 0 ≤ lo v := by unfold lo; omega
theorem lo_1 (v : Int) : lo v ≤ 18446744073709551615 := by unfold lo; omega
theorem car_01 (x y : Int) : 0 ≤ car x y ∧ car x y ≤ 1 := by unfold car lo; omega
theorem bor_01 (x y : Int) : 0 ≤ bor x y ∧ bor x y ≤ 1 := by unfold bor; split <;> omega
theorem hi_b (v : Int) (h0 : -55340232221128654848 ≤ v) (h1 : v ≤ 55340232221128654848) : -3 ≤ hi v ∧ hi v ≤ 3 := by unfold hi; omega
theorem hi_add (x y : Int) : hi x + hi y + car x y = hi (x + y) := by unfold hi car lo; omega
theorem lo_add (x y : Int) : (lo x + lo y) % 18446744073709551616 = lo (x + y) := by unfold lo; omega
theorem hi_sub (x y : Int) : hi x - hi y - bor x y = hi (x - y) := by unfold hi bor lo; split <;> omega
theorem lo_sub (x y : Int) : (lo x - lo y) % 18446744073709551616 = lo (x - y) := by unfold lo; omega

theorem add64_w (x y : Int) (w : World) : (callFunc 39 #[.int .u64 (lo x), .int .u64 (lo y), .int .u64 0]).run Yba.prog w =
    .ok (.value (.tuple #[.int .u64 (lo (x + y)), .int .u64 (car x y)])) w := by
  have h := run_callFunc_extern Yba.func39 (by kernel_rfl) (by kernel_rfl) (by kernel_rfl) (e := add64Entry) (by kernel_rfl) #[.int .u64 (lo x), .int .u64 (lo y), .int .u64 0] w
  rw [run_add64 (lo x) (lo y) 0 (lo_0 x) (lo_0 y) (by omega) (by omega)] at h
  refine h.trans ?_
  simp only [Result.andThen]
  rw [Int.add_zero, lo_add]
  rfl
theorem sub64_w (x y : Int) (w : World) : (callFunc 40 #[.int .u64 (lo x), .int .u64 (lo y), .int .u64 0]).run Yba.prog w =
    .ok (.value (.tuple #[.int .u64 (lo (x - y)), .int .u64 (bor x y)])) w := by
  obtain ⟨a, ha⟩ := Int.eq_ofNat_of_zero_le (lo_0 x)
  obtain ⟨b, hb⟩ := Int.eq_ofNat_of_zero_le (lo_0 y)
  have hb' := lo_1 y
  have h := run_callFunc_extern Yba.func40 (by kernel_rfl) (by kernel_rfl) (by kernel_rfl) (e := sub64Entry) (by kernel_rfl) #[.int .u64 (a : Int), .int .u64 (b : Int), .int .u64 ((0 : Nat) : Int)] w
  rw [run_sub64 a b 0 (by omega)] at h
  have e1 : (((a + 18446744073709551616 - b - 0) % 18446744073709551616 : Nat) : Int) = lo (x - y) := by rw [← lo_sub, ha, hb]; omega
  have e2 : ((if a < b + 0 then 1 else 0 : Nat) : Int) = bor x y := by unfold bor; rw [ha, hb]; split <;> split <;> omega
  rw [e1, e2] at h
  rw [ha, hb]
  exact h

theorem wideOf_any (v : Int) (w : World) (h0 : -9223372036854775808 ≤ v) (h1 : v ≤ 9223372036854775807) :
    Calls Yba.prog 26 #[.int .i64 v] w fun e w' => e = .returned (.agg #[.int .i64 (hi v), .int .u64 (lo v)]) ∧ ∃ c1 : Array Value, w' = w.alloc (.cells c1 47) := by
  have E : Hid (v / 9223372036854775808 = hi v) := by unfold Hid hi; omega
  go_enter Yba.func26, Yba.ntmps26
  go_wp2
  exact bodyPost_ret (v := .agg #[.int .i64 (v / 9223372036854775808), .int .u64 (IntKind.u64.wrap v)]) (by simp [results, Yba.results26, go_sem]) rfl ⟨by rw [E.out, IntKind.wrap_u64]; rfl, _, rfl⟩

set_option maxHeartbeats 400000 in
theorem plus_any (a b : Int) (w : World) (ha : -3 ≤ hi a ∧ hi a ≤ 3) (hb : -3 ≤ hi b ∧ hi b ≤ 3) :
    Calls Yba.prog 27 #[.agg #[.int .i64 (hi a), .int .u64 (lo a)], .agg #[.int .i64 (hi b), .int .u64 (lo b)]] w fun e w' => e = .returned (.agg #[.int .i64 (hi (a + b)), .int .u64 (lo (a + b))]) ∧ ∃ c1 c2 c3 : Array Value, w' = ((w.alloc (.cells c1 47)).alloc (.cells c2 47)).alloc (.cells c3 47) := by
  obtain ⟨a0, a1⟩ := ha
  obtain ⟨b0, b1⟩ := hb
  obtain ⟨c0, c1⟩ := car_01 a b
  have E := hide (hi_add a b)
  have R := add64_w a b
  go_enter Yba.func27, Yba.ntmps27
  go_wp2
  exact bodyPost_ret (v := .agg #[.int .i64 (hi a + hi b + car a b), .int .u64 (lo (a + b))]) (by simp [results, Yba.results27, go_sem]) rfl ⟨by rw [E.out], _, _, _, rfl⟩

set_option maxHeartbeats 400000 in
theorem minus_any (a b : Int) (w : World) (ha : -3 ≤ hi a ∧ hi a ≤ 3) (hb : -3 ≤ hi b ∧ hi b ≤ 3) :
    Calls Yba.prog 28 #[.agg #[.int .i64 (hi a), .int .u64 (lo a)], .agg #[.int .i64 (hi b), .int .u64 (lo b)]] w fun e w' => e = .returned (.agg #[.int .i64 (hi (a - b)), .int .u64 (lo (a - b))]) ∧ ∃ c1 c2 c3 : Array Value, w' = ((w.alloc (.cells c1 47)).alloc (.cells c2 47)).alloc (.cells c3 47) := by
  obtain ⟨a0, a1⟩ := ha
  obtain ⟨b0, b1⟩ := hb
  obtain ⟨c0, c1⟩ := bor_01 a b
  have E := hide (hi_sub a b)
  have R := sub64_w a b
  go_enter Yba.func28, Yba.ntmps28
  go_wp2
  exact bodyPost_ret (v := .agg #[.int .i64 (hi a - hi b - bor a b), .int .u64 (lo (a - b))]) (by simp [results, Yba.results28, go_sem]) rfl ⟨by rw [E.out], _, _, _, rfl⟩
end Go.Proofs.Ybulkbabq
