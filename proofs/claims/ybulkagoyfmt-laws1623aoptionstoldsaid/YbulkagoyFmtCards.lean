/-
  DERIVED. GIVEN WITH THE SEED: THE CARDS: each row of YbulkagoyFmtRows.lean that lists a variable, with what it lists TIED to the program's text (the seventh form; the later family's looks); each row that meets fmt, with fmt's text TOLD by the authors' own Lean function (tested against real Go, not proved from fmt's source: count such statements apart). THE CARD IS WHAT COUNTS. Prove the row's statement (the work); the ties are given (YbulkagoyFmtTie.lean); close each card by the builder's one call (the guide's Derived/Test/ToyasCard.lean, 'card_holds'). Laid BY PROGRAM, IN A SANDBOX (cutbox-door.mjs). By AI agents, Wed Nov 11 2026. No macro, syntax, notation, axiom, sorry.
-/
import Derived.Test.YbulkagoyFmtRows
import GoSem.ClaimSeven
namespace Go.Proofs.YbulkagoyFmt
namespace Rows

/-- THE TOLD CARD OF 'holdfast.LawS1623AIds'. -/
def lawS1623AIdsCard : Claim7 := { stood := { row := lawS1623AIdsRow, standIns := [], harness := (true, "9dd47fdf950d991ace2869a7c4b76290d9ae13184758b76b5919269b91d25b9e"), looks := false }, told := true, goes := false }
def LawS1623AIdsToldSaid : Prop := Claim7.holds Ybaf.pinned (.plain (OpenSpec.ofChange lawS1623AIdsSpec)) lawS1623AIdsCard
/-- ITS FALSE NEIGHBOUR. Refute it at one input. -/
def LawS1623AIdsToldWrongFalsely : Prop := Claim7.holds Ybaf.pinned (.plain (OpenSpec.ofChange lawS1623AIdsWrong)) lawS1623AIdsCard

/-- THE TOLD CARD OF 'holdfast.LawS1623AOptions'. -/
def lawS1623AOptionsCard : Claim7 := { stood := { row := lawS1623AOptionsRow, standIns := [], harness := (true, "9dd47fdf950d991ace2869a7c4b76290d9ae13184758b76b5919269b91d25b9e"), looks := false }, told := true, goes := false }
def LawS1623AOptionsToldSaid : Prop := Claim7.holds Ybaf.pinned (.plain (OpenSpec.ofChange lawS1623AOptionsSpec)) lawS1623AOptionsCard
/-- ITS FALSE NEIGHBOUR. Refute it at one input. -/
def LawS1623AOptionsToldWrongFalsely : Prop := Claim7.holds Ybaf.pinned (.plain (OpenSpec.ofChange lawS1623AOptionsWrong)) lawS1623AOptionsCard
end Rows
end Go.Proofs.YbulkagoyFmt
