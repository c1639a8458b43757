import Derived.Test.YbulkbabqKept
namespace Go.Proofs.Ybulkbabq
open Go.ChangeShapes Go.WideShapes Go.ChangeAt Go.RowKit
set_option linter.unusedVariables false
set_option maxHeartbeats 1000000 in
set_option maxRecDepth 100000 in
theorem same_any (pf pt pc pe ps qf qt qc qe qs : Int) (w : World) :
    Calls Yba.prog 6 #[.agg #[.int .i64 pf, .int .i64 pt, .int .i64 pc, .int .i64 pe, .int .i64 ps], .agg #[.int .i64 qf, .int .i64 qt, .int .i64 qc, .int .i64 qe, .int .i64 qs]] w fun en w' => en = .returned (.bool (decide ((pf, pt) = (qf, qt)))) ∧ Below w.heap.size w w' := by
  by_cases h1 : pf = qf
  · subst h1
    by_cases h2 : pt = qt
    · subst h2
      go_enter Yba.func6, Yba.ntmps6
      go_wp2
      go_ret
      exact ⟨by simp, by go_grown⟩
    · have hb : (pt == qt) = false := by simpa using h2
      go_enter Yba.func6, Yba.ntmps6
      go_wp2
      go_ret
      exact ⟨by simp [h2], by go_grown⟩
  · have hb : (pf == qf) = false := by simpa using h1
    go_enter Yba.func6, Yba.ntmps6
    go_wp2
    go_ret
    exact ⟨by simp [h1], by go_grown⟩
end Go.Proofs.Ybulkbabq
