/-
  DERIVED. GIVEN WITH THE SEED: THE CARDS: each row of YbulkbabqFmtRows.lean that lists a variable, with what it lists TIED to the program's text (the seventh form; the later family's looks); each row that meets fmt, with fmt's text TOLD by the authors' own Lean function (tested against real Go, not proved from fmt's source: count such statements apart). THE CARD IS WHAT COUNTS. Prove the row's statement (the work); the ties are given (YbulkbabqFmtTie.lean); close each card by the builder's one call (the guide's Derived/Test/ToyasCard.lean, 'card_holds'). Laid BY PROGRAM, IN A SANDBOX (cutbox-door.mjs). By AI agents, Wed Nov 11 2026. No macro, syntax, notation, axiom, sorry.
-/
import Derived.Test.YbulkbabqFmtRows
import GoSem.ClaimSeven
namespace Go.Proofs.YbulkbabqFmt
namespace Rows

/-- THE TOLD CARD OF 'eventlog.LawS2564AModel'. -/
def lawS2564AModelCard : Claim7 := { stood := { row := lawS2564AModelRow, standIns := [], harness := (true, "067cb8fbc1372f5a7f10c6335335128056b733586eaf7c5b5ec35cb3ba128e5d"), looks := false }, told := true, goes := false }
def LawS2564AModelToldSaid : Prop := Claim7.holds Ybaf.pinned (.plain (OpenSpec.ofChange lawS2564AModelSpec)) lawS2564AModelCard
/-- ITS FALSE NEIGHBOUR. Refute it at one input. -/
def LawS2564AModelToldWrongFalsely : Prop := Claim7.holds Ybaf.pinned (.plain (OpenSpec.ofChange lawS2564AModelWrong)) lawS2564AModelCard

/-- THE TOLD CARD OF 'eventlog.LawS2564ASplit'. -/
def lawS2564ASplitCard : Claim7 := { stood := { row := lawS2564ASplitRow, standIns := [], harness := (true, "067cb8fbc1372f5a7f10c6335335128056b733586eaf7c5b5ec35cb3ba128e5d"), looks := false }, told := true, goes := false }
def LawS2564ASplitToldSaid : Prop := Claim7.holds Ybaf.pinned (.plain (OpenSpec.ofChange lawS2564ASplitSpec)) lawS2564ASplitCard
/-- ITS FALSE NEIGHBOUR. Refute it at one input. -/
def LawS2564ASplitToldWrongFalsely : Prop := Claim7.holds Ybaf.pinned (.plain (OpenSpec.ofChange lawS2564ASplitWrong)) lawS2564ASplitCard
end Rows
end Go.Proofs.YbulkbabqFmt
