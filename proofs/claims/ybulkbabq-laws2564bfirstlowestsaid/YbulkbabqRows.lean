/-
  No cell of these rows narrows 'for every input' (looked for: loops, veiled, ifaces, maps, wideKeys, modest, calm, conditions, laid).
  DERIVED. THE GIVEN ROWS OF THIS SEAT. 2 by the template 'for every input the law returns true; each argument reads behind the call as it read before'; 0 by the template 'total and deterministic' (their statements: YbulkbabqTotals.lean).
  GIVEN WITH THE SEED: the statements are not yours to turn. If you find one false, say at which input.
  Laid BY PROGRAM, IN A SANDBOX (cutbox-rows.mjs): the forced cells as the released guide's own fill.sh prints them over the translation c74c3412aa897433… (all of the seat's roots in one cut). By AI agents, Wed Nov 11 2026. No macro, syntax, notation, axiom, sorry.
-/
import Derived.Test.YbulkbabqChecked
import GoSem.Claim
import GoSem.ClaimJoined
import GoSem.ClaimMapViews
import Derived.JoinedTies
import Derived.KernelRfl
namespace Go.Proofs.Ybulkbabq
/- THE CELL 'sum', in the pinned program and in every row, IS THE sha256 OF THE DUMP (.gsa) THAT YbulkbabqProg.lean LOADS. Nothing in Lean hashes anything: it is a label: what it is worth is what the hold of that sum in a sandbox is worth. -/
noncomputable def Yba.pinned : Pinned := { name := "ybulkbabq", sum := "c74c3412aa89743390b9527f30345ebdd55477c15f6263dfeec33b809d4abcc6", checked := Yba.checked }
namespace Rows
def none {H : Type} : Left H := { results := [], args := [] }

/-- 'offset.LawS2564BFirstLowest': WHATEVER THE INPUT: true; the input reads as it did. -/
def lawS2564BFirstLowestSpec : ChangeSpec := { name := "lawS2564BFirstLowest", fn := fun _ => fun
  | [d] => { results := [.lit (.bool true)], args := [d] }
  | _ => none }
def lawS2564BFirstLowestRow : OpenClaim := { program := "ybulkbabq", sum := "c74c3412aa89743390b9527f30345ebdd55477c15f6263dfeec33b809d4abcc6", func := "example.com/skewline/skewline/internal/offset.LawS2564BFirstLowest", spec := "lawS2564BFirstLowest", inPlace := ["math/big.addVV", "math/bits.Add64", "math/big.subVV", "math/bits.Sub64"], recurses := true, plainKeys := false, apart := false }
def LawS2564BFirstLowestSaid : Prop := lawS2564BFirstLowestRow.holds Yba.pinned (OpenSpec.ofChange lawS2564BFirstLowestSpec)

/-- ITS FALSE NEIGHBOUR: 'it returns false'. Refute it at one input. -/
def lawS2564BFirstLowestWrong : ChangeSpec := { name := "lawS2564BFirstLowest", fn := fun _ => fun
  | [d] => { results := [.lit (.bool false)], args := [d] }
  | _ => none }
def LawS2564BFirstLowestWrongFalsely : Prop := lawS2564BFirstLowestRow.holds Yba.pinned (OpenSpec.ofChange lawS2564BFirstLowestWrong)

/-- 'offset.LawS2564BNoneTighter': WHATEVER THE INPUT: true; the input reads as it did. -/
def lawS2564BNoneTighterSpec : ChangeSpec := { name := "lawS2564BNoneTighter", fn := fun _ => fun
  | [d] => { results := [.lit (.bool true)], args := [d] }
  | _ => none }
def lawS2564BNoneTighterRow : OpenClaim := { program := "ybulkbabq", sum := "c74c3412aa89743390b9527f30345ebdd55477c15f6263dfeec33b809d4abcc6", func := "example.com/skewline/skewline/internal/offset.LawS2564BNoneTighter", spec := "lawS2564BNoneTighter", inPlace := ["math/bits.Add64", "math/bits.Sub64"], plainKeys := false, apart := false }
def LawS2564BNoneTighterSaid : Prop := lawS2564BNoneTighterRow.holds Yba.pinned (OpenSpec.ofChange lawS2564BNoneTighterSpec)

/-- ITS FALSE NEIGHBOUR: 'it returns false'. Refute it at one input. -/
def lawS2564BNoneTighterWrong : ChangeSpec := { name := "lawS2564BNoneTighter", fn := fun _ => fun
  | [d] => { results := [.lit (.bool false)], args := [d] }
  | _ => none }
def LawS2564BNoneTighterWrongFalsely : Prop := lawS2564BNoneTighterRow.holds Yba.pinned (OpenSpec.ofChange lawS2564BNoneTighterWrong)

end Rows
end Go.Proofs.Ybulkbabq
