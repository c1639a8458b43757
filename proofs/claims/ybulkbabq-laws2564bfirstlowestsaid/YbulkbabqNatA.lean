import Derived.Test.YbulkbabqTightest
import Derived.Laws.Twins
namespace Go.Proofs.Ybulkbabq
open Go.ChangeShapes Go.WideShapes Go.ChangeAt Go.RowKit
set_option linter.unusedVariables false

/-- Sum and carry, difference and borrow of two words. -/
def alo (x y : Int) : Int := (x + y) % 18446744073709551616
def ahi (x y : Int) : Int := (x + y) / 18446744073709551616
def slo (x y : Int) : Int := (x - y) % 18446744073709551616
def sbo (x y : Int) : Int := if x < y then 1 else 0
/-- A word. -/
def Wd (x : Int) : Prop := 0 ≤ x ∧ x ≤ 18446744073709551615
theorem alo_wd (x y : Int) : Wd (alo x y) := by unfold Wd alo; omega
theorem slo_wd (x y : Int) : Wd (slo x y) := by unfold Wd slo; omega
theorem ahi_01 {x y : Int} (hx : Wd x) (hy : Wd y) : 0 ≤ ahi x y ∧ ahi x y ≤ 1 := by unfold Wd at *; unfold ahi; omega
theorem sbo_01 (x y : Int) : 0 ≤ sbo x y ∧ sbo x y ≤ 1 := by unfold sbo; split <;> omega

theorem add39 (x y : Int) (hx : Wd x) (hy : Wd y) (w : World) : (callFunc 39 #[.int .u64 x, .int .u64 y, .int .u64 0]).run Yba.prog w =
    .ok (.value (.tuple #[.int .u64 (alo x y), .int .u64 (ahi x y)])) w := by
  have h := run_callFunc_extern Yba.func39 (by kernel_rfl) (by kernel_rfl) (by kernel_rfl) (e := add64Entry) (by kernel_rfl) #[.int .u64 x, .int .u64 y, .int .u64 0] w
  rw [run_add64 x y 0 hx.1 hy.1 (by omega) (by omega)] at h
  refine h.trans ?_
  simp only [Result.andThen]
  rw [Int.add_zero]
  rfl
theorem sub40 (x y : Int) (hx : Wd x) (hy : Wd y) (w : World) : (callFunc 40 #[.int .u64 x, .int .u64 y, .int .u64 0]).run Yba.prog w =
    .ok (.value (.tuple #[.int .u64 (slo x y), .int .u64 (sbo x y)])) w := by
  obtain ⟨a, rfl⟩ := Int.eq_ofNat_of_zero_le hx.1
  obtain ⟨b, rfl⟩ := Int.eq_ofNat_of_zero_le hy.1
  have hb' := hy.2
  have h := run_callFunc_extern Yba.func40 (by kernel_rfl) (by kernel_rfl) (by kernel_rfl) (e := sub64Entry) (by kernel_rfl) #[.int .u64 (a : Int), .int .u64 (b : Int), .int .u64 ((0 : Nat) : Int)] w
  rw [run_sub64 a b 0 (by omega)] at h
  have e1 : (((a + 18446744073709551616 - b - 0) % 18446744073709551616 : Nat) : Int) = slo a b := by unfold slo; omega
  have e2 : ((if a < b + 0 then 1 else 0 : Nat) : Int) = sbo a b := by unfold sbo; split <;> split <;> omega
  rw [e1, e2] at h
  exact h
theorem vv_add (args : Array Value) (w : World) : (callFunc 32 args).run Yba.prog w = .ok (.enter 17 args) w :=
  run_callFunc_twin (twin := "math/big.addVV_g") Yba.func32 (by kernel_rfl) (by kernel_rfl) (by kernel_rfl) (by kernel_rfl) Yba.func17 (by kernel_rfl) (by kernel_rfl) (by kernel_rfl) args w
theorem vv_sub (args : Array Value) (w : World) : (callFunc 36 args).run Yba.prog w = .ok (.enter 18 args) w :=
  run_callFunc_twin (twin := "math/big.subVV_g") Yba.func36 (by kernel_rfl) (by kernel_rfl) (by kernel_rfl) (by kernel_rfl) Yba.func18 (by kernel_rfl) (by kernel_rfl) (by kernel_rfl) args w

theorem bitsAdd (x y : Int) (w : World) (hx : Wd x) (hy : Wd y) :
    Calls Yba.prog 35 #[.int .u64 x, .int .u64 y, .int .u64 0] w fun e w' => e = .returned (.tuple #[.int .u64 (alo x y), .int .u64 (ahi x y)]) ∧ w' = w := by
  have h := add39 x y hx hy
  go_enter Yba.func35, Yba.ntmps35
  go_wp2
  exact bodyPost_ret (v := .tuple #[.int .u64 (alo x y), .int .u64 (ahi x y)]) (by simp [results, Yba.results35, go_sem]) rfl ⟨rfl, rfl⟩
theorem bitsSub (x y : Int) (w : World) (hx : Wd x) (hy : Wd y) :
    Calls Yba.prog 38 #[.int .u64 x, .int .u64 y, .int .u64 0] w fun e w' => e = .returned (.tuple #[.int .u64 (slo x y), .int .u64 (sbo x y)]) ∧ w' = w := by
  have h := sub40 x y hx hy
  go_enter Yba.func38, Yba.ntmps38
  go_wp2
  exact bodyPost_ret (v := .tuple #[.int .u64 (slo x y), .int .u64 (sbo x y)]) (by simp [results, Yba.results38, go_sem]) rfl ⟨rfl, rfl⟩
end Go.Proofs.Ybulkbabq
