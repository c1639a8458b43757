/-
  No cell of these rows narrows 'for every input' (looked for: loops, veiled, ifaces, maps, wideKeys, modest, calm, conditions, laid).
  DERIVED. THE GIVEN ROWS OF THIS SEAT. 2 by the template 'for every input the law returns true; each argument reads behind the call as it read before'; 0 by the template 'total and deterministic' (their statements: YbulkbabqFmtTotals.lean).
  GIVEN WITH THE SEED: the statements are not yours to turn. If you find one false, say at which input.
  Laid BY PROGRAM, IN A SANDBOX (cutbox-rows.mjs): the forced cells as the released guide's own fill.sh prints them over the translation be83cd95fa1b2bbd… (all of the seat's roots in one cut). By AI agents, Wed Nov 11 2026. No macro, syntax, notation, axiom, sorry.
-/
import Derived.Test.YbulkbabqFmtChecked
import GoSem.Claim
import GoSem.ClaimJoined
import GoSem.ClaimMapViews
import Derived.JoinedTies
import Derived.KernelRfl
namespace Go.Proofs.YbulkbabqFmt
/- THE CELL 'sum', in the pinned program and in every row, IS THE sha256 OF THE DUMP (.gsa) THAT YbulkbabqFmtProg.lean LOADS. Nothing in Lean hashes anything: it is a label: what it is worth is what the hold of that sum in a sandbox is worth. -/
noncomputable def Ybaf.pinned : Pinned := { name := "ybulkbabqfmt", sum := "be83cd95fa1b2bbd581f78bd2185069cded2bb912ad1e5cc3cfcb695077b5cee", checked := Ybaf.checked }
namespace Rows
def none {H : Type} : Left H := { results := [], args := [] }

/-- 'eventlog.LawS2564AModel': WHATEVER THE INPUT: true; the input reads as it did. -/
def lawS2564AModelSpec : ChangeSpec := { name := "lawS2564AModel", fn := fun _ => fun
  | [d1, d2] => { results := [.lit (.bool true)], args := [d1, d2] }
  | _ => none }
def lawS2564AModelRow : OpenClaim := { program := "ybulkbabqfmt", sum := "be83cd95fa1b2bbd581f78bd2185069cded2bb912ad1e5cc3cfcb695077b5cee", func := "example.com/skewline/skewline/internal/eventlog.LawS2564AModel", spec := "lawS2564AModel", stops := ["fmt.errorf", "fmt.Sprintf"], inPlace := ["fmt.errorf", "fmt.Sprintf"], apart := false }
/-- NO THEOREM (fmt's text is open here; it may be false): for the released tool's asking of the row's closed facts alone. THE STATEMENT IS 'LawS2564AModelToldSaid' (YbulkbabqFmtCards.lean). -/
def LawS2564AModelFormAsk : Prop := lawS2564AModelRow.holds Ybaf.pinned (OpenSpec.ofChange lawS2564AModelSpec)

/-- ITS FALSE NEIGHBOUR: 'it returns false'. Refute it at one input. -/
def lawS2564AModelWrong : ChangeSpec := { name := "lawS2564AModel", fn := fun _ => fun
  | [d1, d2] => { results := [.lit (.bool false)], args := [d1, d2] }
  | _ => none }
def LawS2564AModelWrongFormAsk : Prop := lawS2564AModelRow.holds Ybaf.pinned (OpenSpec.ofChange lawS2564AModelWrong)

/-- 'eventlog.LawS2564ASplit': WHATEVER THE INPUT: true; the input reads as it did. -/
def lawS2564ASplitSpec : ChangeSpec := { name := "lawS2564ASplit", fn := fun _ => fun
  | [d1, d2, d3] => { results := [.lit (.bool true)], args := [d1, d2, d3] }
  | _ => none }
def lawS2564ASplitRow : OpenClaim := { program := "ybulkbabqfmt", sum := "be83cd95fa1b2bbd581f78bd2185069cded2bb912ad1e5cc3cfcb695077b5cee", func := "example.com/skewline/skewline/internal/eventlog.LawS2564ASplit", spec := "lawS2564ASplit", stops := ["fmt.errorf", "fmt.Sprintf"], inPlace := ["fmt.errorf", "fmt.Sprintf"], apart := false }
/-- NO THEOREM (fmt's text is open here; it may be false): for the released tool's asking of the row's closed facts alone. THE STATEMENT IS 'LawS2564ASplitToldSaid' (YbulkbabqFmtCards.lean). -/
def LawS2564ASplitFormAsk : Prop := lawS2564ASplitRow.holds Ybaf.pinned (OpenSpec.ofChange lawS2564ASplitSpec)

/-- ITS FALSE NEIGHBOUR: 'it returns false'. Refute it at one input. -/
def lawS2564ASplitWrong : ChangeSpec := { name := "lawS2564ASplit", fn := fun _ => fun
  | [d1, d2, d3] => { results := [.lit (.bool false)], args := [d1, d2, d3] }
  | _ => none }
def LawS2564ASplitWrongFormAsk : Prop := lawS2564ASplitRow.holds Ybaf.pinned (OpenSpec.ofChange lawS2564ASplitWrong)

end Rows
end Go.Proofs.YbulkbabqFmt
