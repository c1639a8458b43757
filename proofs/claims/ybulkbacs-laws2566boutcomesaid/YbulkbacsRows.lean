/-
  No cell of these rows narrows 'for every input' (looked for: loops, veiled, ifaces, maps, wideKeys, modest, calm, conditions, laid).
  DERIVED. THE GIVEN ROWS OF THIS SEAT. 4 by the template 'for every input the law returns true; each argument reads behind the call as it read before'; 0 by the template 'total and deterministic' (their statements: YbulkbacsTotals.lean).
  GIVEN WITH THE SEED: the statements are not yours to turn. If you find one false, say at which input.
  Laid BY PROGRAM, IN A SANDBOX (cutbox-rows.mjs): the forced cells as the released guide's own fill.sh prints them over the translation 3c049bf2d1d8f120… (all of the seat's roots in one cut). By AI agents, Wed Nov 11 2026. No macro, syntax, notation, axiom, sorry.
-/
import Derived.Test.YbulkbacsChecked
import GoSem.Claim
import GoSem.ClaimJoined
import GoSem.ClaimMapViews
import Derived.JoinedTies
import Derived.KernelRfl
namespace Go.Proofs.Ybulkbacs
/- THE CELL 'sum', in the pinned program and in every row, IS THE sha256 OF THE DUMP (.gsa) THAT YbulkbacsProg.lean LOADS. Nothing in Lean hashes anything: it is a label: what it is worth is what the hold of that sum in a sandbox is worth. -/
noncomputable def Yba.pinned : Pinned := { name := "ybulkbacs", sum := "3c049bf2d1d8f120de50a99ab0be9b6cebfc776adfc486f8f6758e84f5c94881", checked := Yba.checked }
namespace Rows
def none {H : Type} : Left H := { results := [], args := [] }

/-- 'protocol.LawS2566BOutcome': WHATEVER THE INPUT: true; the input reads as it did. -/
def lawS2566BOutcomeSpec : ChangeSpec := { name := "lawS2566BOutcome", fn := fun _ => fun
  | [d1, d2, d3, d4, d5, d6, d7, d8, d9, d10, d11] => { results := [.lit (.bool true)], args := [d1, d2, d3, d4, d5, d6, d7, d8, d9, d10, d11] }
  | _ => none }
def lawS2566BOutcomeRow : OpenClaim := { program := "ybulkbacs", sum := "3c049bf2d1d8f120de50a99ab0be9b6cebfc776adfc486f8f6758e84f5c94881", func := "example.com/antecedent/antecedent/internal/protocol.LawS2566BOutcome", spec := "lawS2566BOutcome", unfollowed := true, recurses := true, apart := false }
def LawS2566BOutcomeSaid : Prop := lawS2566BOutcomeRow.holds Yba.pinned (OpenSpec.ofChange lawS2566BOutcomeSpec)

/-- ITS FALSE NEIGHBOUR: 'it returns false'. Refute it at one input. -/
def lawS2566BOutcomeWrong : ChangeSpec := { name := "lawS2566BOutcome", fn := fun _ => fun
  | [d1, d2, d3, d4, d5, d6, d7, d8, d9, d10, d11] => { results := [.lit (.bool false)], args := [d1, d2, d3, d4, d5, d6, d7, d8, d9, d10, d11] }
  | _ => none }
def LawS2566BOutcomeWrongFalsely : Prop := lawS2566BOutcomeRow.holds Yba.pinned (OpenSpec.ofChange lawS2566BOutcomeWrong)

/-- 'protocol.LawS2566BCalls': WHATEVER THE INPUT: true; the input reads as it did. -/
def lawS2566BCallsSpec : ChangeSpec := { name := "lawS2566BCalls", fn := fun _ => fun
  | [d1, d2, d3, d4, d5, d6] => { results := [.lit (.bool true)], args := [d1, d2, d3, d4, d5, d6] }
  | _ => none }
def lawS2566BCallsRow : OpenClaim := { program := "ybulkbacs", sum := "3c049bf2d1d8f120de50a99ab0be9b6cebfc776adfc486f8f6758e84f5c94881", func := "example.com/antecedent/antecedent/internal/protocol.LawS2566BCalls", spec := "lawS2566BCalls", unfollowed := true, recurses := true, apart := false }
def LawS2566BCallsSaid : Prop := lawS2566BCallsRow.holds Yba.pinned (OpenSpec.ofChange lawS2566BCallsSpec)

/-- ITS FALSE NEIGHBOUR: 'it returns false'. Refute it at one input. -/
def lawS2566BCallsWrong : ChangeSpec := { name := "lawS2566BCalls", fn := fun _ => fun
  | [d1, d2, d3, d4, d5, d6] => { results := [.lit (.bool false)], args := [d1, d2, d3, d4, d5, d6] }
  | _ => none }
def LawS2566BCallsWrongFalsely : Prop := lawS2566BCallsRow.holds Yba.pinned (OpenSpec.ofChange lawS2566BCallsWrong)

/-- 'history.LawS2566CExact': WHATEVER THE INPUT: true; the input reads as it did. -/
def lawS2566CExactSpec : ChangeSpec := { name := "lawS2566CExact", fn := fun _ => fun
  | [d1, d2, d3, d4] => { results := [.lit (.bool true)], args := [d1, d2, d3, d4] }
  | _ => none }
def lawS2566CExactRow : OpenClaim := { program := "ybulkbacs", sum := "3c049bf2d1d8f120de50a99ab0be9b6cebfc776adfc486f8f6758e84f5c94881", func := "example.com/antecedent/antecedent/internal/history.LawS2566CExact", spec := "lawS2566CExact", apart := false }
def LawS2566CExactSaid : Prop := lawS2566CExactRow.holds Yba.pinned (OpenSpec.ofChange lawS2566CExactSpec)

/-- ITS FALSE NEIGHBOUR: 'it returns false'. Refute it at one input. -/
def lawS2566CExactWrong : ChangeSpec := { name := "lawS2566CExact", fn := fun _ => fun
  | [d1, d2, d3, d4] => { results := [.lit (.bool false)], args := [d1, d2, d3, d4] }
  | _ => none }
def LawS2566CExactWrongFalsely : Prop := lawS2566CExactRow.holds Yba.pinned (OpenSpec.ofChange lawS2566CExactWrong)

/-- 'history.LawS2566CFirstMin': WHATEVER THE INPUT: true; the input reads as it did. -/
def lawS2566CFirstMinSpec : ChangeSpec := { name := "lawS2566CFirstMin", fn := fun _ => fun
  | [d1, d2] => { results := [.lit (.bool true)], args := [d1, d2] }
  | _ => none }
def lawS2566CFirstMinRow : OpenClaim := { program := "ybulkbacs", sum := "3c049bf2d1d8f120de50a99ab0be9b6cebfc776adfc486f8f6758e84f5c94881", func := "example.com/antecedent/antecedent/internal/history.LawS2566CFirstMin", spec := "lawS2566CFirstMin", apart := false }
def LawS2566CFirstMinSaid : Prop := lawS2566CFirstMinRow.holds Yba.pinned (OpenSpec.ofChange lawS2566CFirstMinSpec)

/-- ITS FALSE NEIGHBOUR: 'it returns false'. Refute it at one input. -/
def lawS2566CFirstMinWrong : ChangeSpec := { name := "lawS2566CFirstMin", fn := fun _ => fun
  | [d1, d2] => { results := [.lit (.bool false)], args := [d1, d2] }
  | _ => none }
def LawS2566CFirstMinWrongFalsely : Prop := lawS2566CFirstMinRow.holds Yba.pinned (OpenSpec.ofChange lawS2566CFirstMinWrong)

end Rows
end Go.Proofs.Ybulkbacs
