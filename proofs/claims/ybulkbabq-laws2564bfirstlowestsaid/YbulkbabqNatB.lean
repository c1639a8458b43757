import Derived.Test.YbulkbabqNatA
import Derived.LaidEqlPtr
import Derived.Lib.Builder
namespace Go.Proofs.Ybulkbabq
open Go.ChangeShapes Go.WideShapes Go.ChangeAt Go.RowKit
set_option linter.unusedVariables false
/-- The same world but for draws. -/
structure Eqv (w w' : World) : Prop where
  heap : w'.heap = w.heap
  os : w'.os = w.os
  tape : w'.tape = w.tape
  output : w'.output = w.output

set_option maxHeartbeats 1000000 in
set_option maxRecDepth 100000 in
theorem addvv1 (g cz p cx q cy : Nat) (x y : Int) (u : Value) (w : World) (hx : Wd x) (hy : Wd y) (c0 : w.cell? ⟨p, 0, none⟩ = some (.int .u64 x)) (c1 : w.cell? ⟨q, 0, none⟩ = some (.int .u64 y)) (c2 : w.cell? ⟨g, 0, none⟩ = some u) (fz : w.frozen? ⟨g, 0, none⟩ = false) :
    Calls Yba.prog 17 #[.slice (some ⟨g, 0, none⟩) 1 cz, .slice (some ⟨p, 0, none⟩) 1 cx, .slice (some ⟨q, 0, none⟩) 1 cy] w fun e w' => e = .returned (.int .u64 (ahi x y)) ∧ Eqv (w.setCell ⟨g, 0, none⟩ (.int .u64 (alo x y))) w' := by
  have HX := hide hx
  have HY := hide hy
  clear hx hy
  go_enter Yba.func17, Yba.ntmps17
  go_wp2_with fail
  refine wp_loop_rounds 2 ?_
  rw [rounds_succ]
  go_wp2_with fail
  go_region_held3 (fun w' => (w'.cell? ⟨p, 0, none⟩ = some (.int .u64 x) ∧ w'.cell? ⟨q, 0, none⟩ = some (.int .u64 y) ∧ w'.cell? ⟨g, 0, none⟩ = some u ∧ w'.frozen? ⟨g, 0, none⟩ = false))
    (first | assumption | (simp [go_sem, *]; done))
    (first | (go_at_call 35; refine (bitsAdd x y _ HX.out HY.out).mono ?_; rintro en wa ⟨rfl, rfl⟩))
  go_wp2_with fail
  rw [rounds_succ]
  go_wp2
  go_ret
  exact ⟨rfl, ⟨rfl, rfl, rfl, rfl⟩⟩

set_option maxHeartbeats 1000000 in
set_option maxRecDepth 100000 in
theorem subvv1 (g cz p cx q cy : Nat) (x y : Int) (u : Value) (w : World) (hx : Wd x) (hy : Wd y) (c0 : w.cell? ⟨p, 0, none⟩ = some (.int .u64 x)) (c1 : w.cell? ⟨q, 0, none⟩ = some (.int .u64 y)) (c2 : w.cell? ⟨g, 0, none⟩ = some u) (fz : w.frozen? ⟨g, 0, none⟩ = false) :
    Calls Yba.prog 18 #[.slice (some ⟨g, 0, none⟩) 1 cz, .slice (some ⟨p, 0, none⟩) 1 cx, .slice (some ⟨q, 0, none⟩) 1 cy] w fun e w' => e = .returned (.int .u64 (sbo x y)) ∧ Eqv (w.setCell ⟨g, 0, none⟩ (.int .u64 (slo x y))) w' := by
  have HX := hide hx
  have HY := hide hy
  clear hx hy
  go_enter Yba.func18, Yba.ntmps18
  go_wp2_with fail
  refine wp_loop_rounds 2 ?_
  rw [rounds_succ]
  go_wp2_with fail
  go_region_held3 (fun w' => (w'.cell? ⟨p, 0, none⟩ = some (.int .u64 x) ∧ w'.cell? ⟨q, 0, none⟩ = some (.int .u64 y) ∧ w'.cell? ⟨g, 0, none⟩ = some u ∧ w'.frozen? ⟨g, 0, none⟩ = false))
    (first | assumption | (simp [go_sem, *]; done))
    (first | (go_at_call 38; refine (bitsSub x y _ HX.out HY.out).mono ?_; rintro en wa ⟨rfl, rfl⟩))
  go_wp2_with fail
  rw [rounds_succ]
  go_wp2
  go_ret
  exact ⟨rfl, ⟨rfl, rfl, rfl, rfl⟩⟩

theorem sz55 : (Yba.prog.info? 55).map (·.size) = some 1 := by kernel_rfl
theorem neq_same (w : World) (a : Addr) : (binOp .neq 68 (.pointer (some a)) (.pointer (some a))).run Yba.prog w = .ok (.bool false) w := by
  cases hq : Yba.prog.info? 55 with
  | none => have := sz55; simp [hq] at this
  | some j => exact Go.Lib.run_neq_ptr_same w a Yba.underlying68 hq
theorem neq_other (w : World) {a b : Addr} {ca cb : Array Value} {ta tb : TypeId} (hne : a ≠ b) (ha : w.heap[a.block]? = some (.cells ca ta (0, 0))) (hb : w.heap[b.block]? = some (.cells cb tb (0, 0))) :
    (binOp .neq 68 (.pointer (some a)) (.pointer (some b))).run Yba.prog w = .ok (.bool true) w := by
  cases hq : Yba.prog.info? 55 with
  | none => have := sz55; simp [hq] at this
  | some j =>
    have hsz : j.size ≠ 0 := by have := sz55; simp [hq] at this; omega
    have h : ∀ d : Nat, (Op.equalIn (d + 1) 68 (.pointer (some a)) (.pointer (some b))).run Yba.prog w = .ok false w := fun d => by
      simp [Op.equalIn, run_underlying Yba.underlying68, sizeOf, typeInfo, hq, hsz, run_sameAddr_other w hne ha hb]
    simp only [binOp]
    simp [Op.equal, Op.maxDepth, h 9999]
set_option maxHeartbeats 1000000 in
set_option maxRecDepth 100000 in
theorem addvw1 (g cz p cx : Nat) (x y : Int) (cg cp : Array Value) (w : World) (hx : Wd x) (hy : Wd y) (hcz : 1 ≤ cz) (hcx : 1 ≤ cx) (hk : ahi x y = 0) (hg : w.heap[g]? = some (.cells cg 55 (0, 0))) (hp : w.heap[p]? = some (.cells cp 55 (0, 0))) (h0 : cp[1]? = some (.int .u64 x)) (h1 : 1 < cg.size) :
    Calls Yba.prog 33 #[.slice (some ⟨g, 1, none⟩) 1 cz, .slice (some ⟨p, 1, none⟩) 1 cx, .int .u64 y] w fun e w' => e = .returned (.int .u64 0) ∧ Eqv (w.setCell ⟨g, 1, none⟩ (.int .u64 (alo x y))) w' := by
  have c0 : w.cell? ⟨p, 1, none⟩ = some (.int .u64 x) := by simp [World.cell?, hp, h0]
  obtain ⟨u, hu⟩ : ∃ u, cg[1]? = some u := ⟨cg[1], by simp [h1]⟩
  have c2 : w.cell? ⟨g, 1, none⟩ = some u := by simp [World.cell?, hg, hu]
  have fz : w.frozen? ⟨g, 1, none⟩ = false := frozen_of_row w g 1 cg 55 hg
  have HX := hide hx
  have HY := hide hy
  have HK := hide hk
  have HG := hide (And.intro hg hp)
  clear hx hy hk hg hp
  by_cases hgp : g = p
  · subst hgp
    rw [c0] at c2
    injection c2 with c2
    subst c2
    have hne : ∀ w : World, (binOp .neq 68 (.pointer (some ⟨g, 1, none⟩)) (.pointer (some ⟨g, 1, none⟩))).run Yba.prog w = .ok (.bool false) w := fun w => neq_same w _
    go_enter Yba.func33, Yba.ntmps33
    go_wp2_with (go_at_call 35; refine (bitsAdd x y _ HX.out HY.out).mono ?_; rintro en wa ⟨rfl, rfl⟩; rw [HK.out])
    go_wp2_with fail
    go_quiet (fail)
    go_wp2
    go_ret
    exact ⟨rfl, ⟨rfl, rfl, rfl, rfl⟩⟩
  · have hcp : ∀ (w : World) (ty : TypeId) (d a : Option Addr) (dc sc : Nat), (Builtin.copy_ #[36, 36] ty #[.slice d 0 dc, .slice a 0 sc]).run Yba.prog w = .ok (.int .i64 0) w := fun w ty d a dc sc => run_copy_none w 36 36 ty 55 d a 0 dc 0 sc Yba.underlying36 sz55 (by simp)
    have hne : (binOp .neq 68 (.pointer (some ⟨g, 1, none⟩)) (.pointer (some ⟨p, 1, none⟩))).run Yba.prog (w.setCell ⟨g, 1, none⟩ (.int .u64 (alo x y))).drew = .ok (.bool true) (w.setCell ⟨g, 1, none⟩ (.int .u64 (alo x y))).drew :=
      neq_other _ (fun e => hgp (by injection e)) (show (w.setCell ⟨g, 1, none⟩ (.int .u64 (alo x y))).heap[g]? = _ from heap_setCell_same w g 1 cg 55 _ HG.out.1) (show (w.setCell ⟨g, 1, none⟩ (.int .u64 (alo x y))).heap[p]? = _ from (heap_setCell_other w ⟨g, 1, none⟩ p _ (by simp; omega)).trans HG.out.2)
    go_enter Yba.func33, Yba.ntmps33
    go_wp2_with (go_at_call 35; refine (bitsAdd x y _ HX.out HY.out).mono ?_; rintro en wa ⟨rfl, rfl⟩; rw [HK.out])
    go_wp2_with fail
    go_region
    go_wp2_with fail
    go_region
    go_wp2
    all_goals (go_ret; exact ⟨rfl, ⟨rfl, rfl, rfl, rfl⟩⟩)

set_option maxHeartbeats 1000000 in
set_option maxRecDepth 100000 in
theorem subvw1 (g cz p cx : Nat) (x y : Int) (cg cp : Array Value) (w : World) (hx : Wd x) (hy : Wd y) (hcz : 1 ≤ cz) (hcx : 1 ≤ cx) (hk : sbo x y = 0) (hg : w.heap[g]? = some (.cells cg 55 (0, 0))) (hp : w.heap[p]? = some (.cells cp 55 (0, 0))) (h0 : cp[1]? = some (.int .u64 x)) (h1 : 1 < cg.size) :
    Calls Yba.prog 37 #[.slice (some ⟨g, 1, none⟩) 1 cz, .slice (some ⟨p, 1, none⟩) 1 cx, .int .u64 y] w fun e w' => e = .returned (.int .u64 0) ∧ Eqv (w.setCell ⟨g, 1, none⟩ (.int .u64 (slo x y))) w' := by
  have c0 : w.cell? ⟨p, 1, none⟩ = some (.int .u64 x) := by simp [World.cell?, hp, h0]
  obtain ⟨u, hu⟩ : ∃ u, cg[1]? = some u := ⟨cg[1], by simp [h1]⟩
  have c2 : w.cell? ⟨g, 1, none⟩ = some u := by simp [World.cell?, hg, hu]
  have fz : w.frozen? ⟨g, 1, none⟩ = false := frozen_of_row w g 1 cg 55 hg
  have HX := hide hx
  have HY := hide hy
  have HK := hide hk
  have HG := hide (And.intro hg hp)
  clear hx hy hk hg hp
  by_cases hgp : g = p
  · subst hgp
    rw [c0] at c2
    injection c2 with c2
    subst c2
    have hne : ∀ w : World, (binOp .neq 68 (.pointer (some ⟨g, 1, none⟩)) (.pointer (some ⟨g, 1, none⟩))).run Yba.prog w = .ok (.bool false) w := fun w => neq_same w _
    go_enter Yba.func37, Yba.ntmps37
    go_wp2_with (go_at_call 38; refine (bitsSub x y _ HX.out HY.out).mono ?_; rintro en wa ⟨rfl, rfl⟩; rw [HK.out])
    go_wp2_with fail
    go_quiet (fail)
    go_wp2
    go_ret
    exact ⟨rfl, ⟨rfl, rfl, rfl, rfl⟩⟩
  · have hcp : ∀ (w : World) (ty : TypeId) (d a : Option Addr) (dc sc : Nat), (Builtin.copy_ #[36, 36] ty #[.slice d 0 dc, .slice a 0 sc]).run Yba.prog w = .ok (.int .i64 0) w := fun w ty d a dc sc => run_copy_none w 36 36 ty 55 d a 0 dc 0 sc Yba.underlying36 sz55 (by simp)
    have hne : (binOp .neq 68 (.pointer (some ⟨g, 1, none⟩)) (.pointer (some ⟨p, 1, none⟩))).run Yba.prog (w.setCell ⟨g, 1, none⟩ (.int .u64 (slo x y))).drew = .ok (.bool true) (w.setCell ⟨g, 1, none⟩ (.int .u64 (slo x y))).drew :=
      neq_other _ (fun e => hgp (by injection e)) (show (w.setCell ⟨g, 1, none⟩ (.int .u64 (slo x y))).heap[g]? = _ from heap_setCell_same w g 1 cg 55 _ HG.out.1) (show (w.setCell ⟨g, 1, none⟩ (.int .u64 (slo x y))).heap[p]? = _ from (heap_setCell_other w ⟨g, 1, none⟩ p _ (by simp; omega)).trans HG.out.2)
    go_enter Yba.func37, Yba.ntmps37
    go_wp2_with (go_at_call 38; refine (bitsSub x y _ HX.out HY.out).mono ?_; rintro en wa ⟨rfl, rfl⟩; rw [HK.out])
    go_wp2_with fail
    go_region
    go_wp2_with fail
    go_region
    go_wp2
    all_goals (go_ret; exact ⟨rfl, ⟨rfl, rfl, rfl, rfl⟩⟩)


set_option maxHeartbeats 1000000 in
set_option maxRecDepth 100000 in
theorem norm_any (g k cap : Nat) (ws : Nat → Int) (w : World) (hk : k ≤ 8) (hkc : k ≤ cap) (hc : ∀ o, o < k → w.cell? ⟨g, o, none⟩ = some (.int .u64 (ws o))) :
    Calls Yba.prog 34 #[.slice (some ⟨g, 0, none⟩) k cap] w fun e w' => ∃ j : Nat, j ≤ k ∧ e = .returned (.slice (some ⟨g, 0, none⟩) j cap) ∧ (∀ o, j ≤ o → o < k → ws o = 0) ∧ (0 < j → ws (j - 1) ≠ 0) ∧ w' = w := by
  have HC := hide hc
  clear hc
  go_enter Yba.func34, Yba.ntmps34
  go_wp2_with fail
  go_loopw [3] (fun t wr => ∃ i : Nat, i ≤ k ∧ t = .int .i64 i ∧ Hid (∀ o, i ≤ o → o < k → ws o = 0) ∧ wr = w) (fun t _ => (intOf t).toNat)
  case atStart => exact ⟨k, Nat.le_refl _, rfl, fun o h1 h2 => by omega, rfl⟩
  case round =>
    obtain ⟨i, hi, rfl, HZ, rfl⟩ := hrel
    cases i with
    | zero =>
      go_wp2
      go_ret
      exact ⟨0, by omega, rfl, HZ.out, by omega, rfl⟩
    | succ i =>
      have c0 := HC.out i (by omega)
      by_cases hz : ws i = 0
      · rw [hz] at c0
        have HZ' := hide hz
        clear hz
        have e1 : ((i + 1 : Nat) : Int) - 1 = (i : Nat) := by omega
        go_wp2
        go_roundw
        case rel =>
          refine ⟨i, by omega, by go_num, fun o h1 h2 => ?_, by first | rfl | trivial⟩
          by_cases h3 : o = i
          · subst h3; exact HZ'.out
          · exact HZ.out o (by omega) h2
        case measure => simp [intOf]
      · have hb : (ws i == 0) = false := by simpa using hz
        have e1 : ((i + 1 : Nat) : Int) - 1 = (i : Nat) := by omega
        have HN := hide hz
        clear hz
        go_wp2
        go_ret
        exact ⟨i + 1, by omega, rfl, HZ.out, fun _ => by simpa using HN.out, rfl⟩
end Go.Proofs.Ybulkbabq
