/-
  No cell of these rows narrows 'for every input' (looked for: loops, veiled, ifaces, maps, wideKeys, modest, calm, conditions, laid).
  DERIVED. THE GIVEN ROWS OF THIS SEAT. 4 by the template 'for every input the law returns true; each argument reads behind the call as it read before'; 0 by the template 'total and deterministic' (their statements: YbulkbaewTotals.lean).
  GIVEN WITH THE SEED: the statements are not yours to turn. If you find one false, say at which input.
  Laid BY PROGRAM, IN A SANDBOX (cutbox-rows.mjs): the forced cells as the released guide's own fill.sh prints them over the translation 201a9481c4f060e4… (all of the seat's roots in one cut). By AI agents, Wed Nov 11 2026. No macro, syntax, notation, axiom, sorry.
-/
import Derived.Test.YbulkbaewChecked
import GoSem.Claim
import GoSem.ClaimJoined
import GoSem.ClaimMapViews
import Derived.JoinedTies
import Derived.KernelRfl
namespace Go.Proofs.Ybulkbaew
/- THE CELL 'sum', in the pinned program and in every row, IS THE sha256 OF THE DUMP (.gsa) THAT YbulkbaewProg.lean LOADS. Nothing in Lean hashes anything: it is a label: what it is worth is what the hold of that sum in a sandbox is worth. -/
noncomputable def Yba.pinned : Pinned := { name := "ybulkbaew", sum := "201a9481c4f060e4d9bfe97a9e02c2d6876460f8b17ac23f55aa22899cc7f0e2", checked := Yba.checked }
namespace Rows
def none {H : Type} : Left H := { results := [], args := [] }

/-- 'event.LawS2570AExact': WHATEVER THE INPUT: true; the input reads as it did. -/
def lawS2570AExactSpec : ChangeSpec := { name := "lawS2570AExact", fn := fun _ => fun
  | [d1, d2, d3, d4, d5, d6, d7] => { results := [.lit (.bool true)], args := [d1, d2, d3, d4, d5, d6, d7] }
  | _ => none }
def lawS2570AExactRow : OpenClaim := { program := "ybulkbaew", sum := "201a9481c4f060e4d9bfe97a9e02c2d6876460f8b17ac23f55aa22899cc7f0e2", func := "example.com/chronist/chronist/event.LawS2570AExact", spec := "lawS2570AExact", apart := false }
def LawS2570AExactSaid : Prop := lawS2570AExactRow.holds Yba.pinned (OpenSpec.ofChange lawS2570AExactSpec)

/-- ITS FALSE NEIGHBOUR: 'it returns false'. Refute it at one input. -/
def lawS2570AExactWrong : ChangeSpec := { name := "lawS2570AExact", fn := fun _ => fun
  | [d1, d2, d3, d4, d5, d6, d7] => { results := [.lit (.bool false)], args := [d1, d2, d3, d4, d5, d6, d7] }
  | _ => none }
def LawS2570AExactWrongFalsely : Prop := lawS2570AExactRow.holds Yba.pinned (OpenSpec.ofChange lawS2570AExactWrong)

/-- 'event.LawS2570ASwap': WHATEVER THE INPUT: true; the input reads as it did. -/
def lawS2570ASwapSpec : ChangeSpec := { name := "lawS2570ASwap", fn := fun _ => fun
  | [d1, d2, d3, d4, d5, d6, d7] => { results := [.lit (.bool true)], args := [d1, d2, d3, d4, d5, d6, d7] }
  | _ => none }
def lawS2570ASwapRow : OpenClaim := { program := "ybulkbaew", sum := "201a9481c4f060e4d9bfe97a9e02c2d6876460f8b17ac23f55aa22899cc7f0e2", func := "example.com/chronist/chronist/event.LawS2570ASwap", spec := "lawS2570ASwap", apart := false }
def LawS2570ASwapSaid : Prop := lawS2570ASwapRow.holds Yba.pinned (OpenSpec.ofChange lawS2570ASwapSpec)

/-- ITS FALSE NEIGHBOUR: 'it returns false'. Refute it at one input. -/
def lawS2570ASwapWrong : ChangeSpec := { name := "lawS2570ASwap", fn := fun _ => fun
  | [d1, d2, d3, d4, d5, d6, d7] => { results := [.lit (.bool false)], args := [d1, d2, d3, d4, d5, d6, d7] }
  | _ => none }
def LawS2570ASwapWrongFalsely : Prop := lawS2570ASwapRow.holds Yba.pinned (OpenSpec.ofChange lawS2570ASwapWrong)

/-- 'event.LawS2570CWalk': WHATEVER THE INPUT: true; the input reads as it did. -/
def lawS2570CWalkSpec : ChangeSpec := { name := "lawS2570CWalk", fn := fun _ => fun
  | [d1, d2] => { results := [.lit (.bool true)], args := [d1, d2] }
  | _ => none }
def lawS2570CWalkRow : OpenClaim := { program := "ybulkbaew", sum := "201a9481c4f060e4d9bfe97a9e02c2d6876460f8b17ac23f55aa22899cc7f0e2", func := "example.com/chronist/chronist/event.LawS2570CWalk", spec := "lawS2570CWalk", inPlace := ["internal/bytealg.IndexByteString"], unfollowed := true, recurses := true, apart := false }
def LawS2570CWalkSaid : Prop := lawS2570CWalkRow.holds Yba.pinned (OpenSpec.ofChange lawS2570CWalkSpec)

/-- ITS FALSE NEIGHBOUR: 'it returns false'. Refute it at one input. -/
def lawS2570CWalkWrong : ChangeSpec := { name := "lawS2570CWalk", fn := fun _ => fun
  | [d1, d2] => { results := [.lit (.bool false)], args := [d1, d2] }
  | _ => none }
def LawS2570CWalkWrongFalsely : Prop := lawS2570CWalkRow.holds Yba.pinned (OpenSpec.ofChange lawS2570CWalkWrong)

/-- 'event.LawS2570CStop': WHATEVER THE INPUT: true; the input reads as it did. -/
def lawS2570CStopSpec : ChangeSpec := { name := "lawS2570CStop", fn := fun _ => fun
  | [d1, d2, d3] => { results := [.lit (.bool true)], args := [d1, d2, d3] }
  | _ => none }
def lawS2570CStopRow : OpenClaim := { program := "ybulkbaew", sum := "201a9481c4f060e4d9bfe97a9e02c2d6876460f8b17ac23f55aa22899cc7f0e2", func := "example.com/chronist/chronist/event.LawS2570CStop", spec := "lawS2570CStop", inPlace := ["internal/bytealg.IndexByteString"], unfollowed := true, recurses := true, apart := false }
def LawS2570CStopSaid : Prop := lawS2570CStopRow.holds Yba.pinned (OpenSpec.ofChange lawS2570CStopSpec)

/-- ITS FALSE NEIGHBOUR: 'it returns false'. Refute it at one input. -/
def lawS2570CStopWrong : ChangeSpec := { name := "lawS2570CStop", fn := fun _ => fun
  | [d1, d2, d3] => { results := [.lit (.bool false)], args := [d1, d2, d3] }
  | _ => none }
def LawS2570CStopWrongFalsely : Prop := lawS2570CStopRow.holds Yba.pinned (OpenSpec.ofChange lawS2570CStopWrong)

end Rows
end Go.Proofs.Ybulkbaew
