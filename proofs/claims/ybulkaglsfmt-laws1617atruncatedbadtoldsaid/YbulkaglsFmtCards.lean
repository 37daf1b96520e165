/-
  DERIVED. GIVEN WITH THE SEED: THE CARDS: each row of YbulkaglsFmtRows.lean that lists a variable, with what it lists TIED to the program's text (the seventh form; the later family's looks); each row that meets fmt, with fmt's text TOLD by the authors' own Lean function (tested against real Go, not proved from fmt's source: count such statements apart). THE CARD IS WHAT COUNTS. Prove the row's statement (the work); the ties are given (YbulkaglsFmtTie.lean); close each card by the builder's one call (the guide's Derived/Test/ToyasCard.lean, 'card_holds'). Laid BY PROGRAM, IN A SANDBOX (cutbox-door.mjs). By AI agents, Wed Nov 11 2026. No macro, syntax, notation, axiom, sorry.
-/
import Derived.Test.YbulkaglsFmtRows
import GoSem.ClaimSeven
namespace Go.Proofs.YbulkaglsFmt
namespace Rows

/-- THE TOLD CARD OF 'bencode.LawS1617ASkipsWhole'. -/
def lawS1617ASkipsWholeCard : Claim7 := { stood := { row := lawS1617ASkipsWholeRow, standIns := [], harness := (true, "efa64ffb27e36aaa8cf834e0b370cbc69e460dbd994a6a71eb7a71fdba354a0f"), looks := false }, told := true, goes := false }
def LawS1617ASkipsWholeToldSaid : Prop := Claim7.holds Ybaf.pinned (.plain (OpenSpec.ofChange lawS1617ASkipsWholeSpec)) lawS1617ASkipsWholeCard
/-- ITS FALSE NEIGHBOUR. Refute it at one input. -/
def LawS1617ASkipsWholeToldWrongFalsely : Prop := Claim7.holds Ybaf.pinned (.plain (OpenSpec.ofChange lawS1617ASkipsWholeWrong)) lawS1617ASkipsWholeCard

/-- THE TOLD CARD OF 'bencode.LawS1617AAtomNoop'. -/
def lawS1617AAtomNoopCard : Claim7 := { stood := { row := lawS1617AAtomNoopRow, standIns := [], harness := (true, "efa64ffb27e36aaa8cf834e0b370cbc69e460dbd994a6a71eb7a71fdba354a0f"), looks := false }, told := true, goes := false }
def LawS1617AAtomNoopToldSaid : Prop := Claim7.holds Ybaf.pinned (.plain (OpenSpec.ofChange lawS1617AAtomNoopSpec)) lawS1617AAtomNoopCard
/-- ITS FALSE NEIGHBOUR. Refute it at one input. -/
def LawS1617AAtomNoopToldWrongFalsely : Prop := Claim7.holds Ybaf.pinned (.plain (OpenSpec.ofChange lawS1617AAtomNoopWrong)) lawS1617AAtomNoopCard

/-- THE TOLD CARD OF 'bencode.LawS1617ATruncatedBad'. -/
def lawS1617ATruncatedBadCard : Claim7 := { stood := { row := lawS1617ATruncatedBadRow, standIns := [], harness := (true, "efa64ffb27e36aaa8cf834e0b370cbc69e460dbd994a6a71eb7a71fdba354a0f"), looks := false }, told := true, goes := false }
def LawS1617ATruncatedBadToldSaid : Prop := Claim7.holds Ybaf.pinned (.plain (OpenSpec.ofChange lawS1617ATruncatedBadSpec)) lawS1617ATruncatedBadCard
/-- ITS FALSE NEIGHBOUR. Refute it at one input. -/
def LawS1617ATruncatedBadToldWrongFalsely : Prop := Claim7.holds Ybaf.pinned (.plain (OpenSpec.ofChange lawS1617ATruncatedBadWrong)) lawS1617ATruncatedBadCard
end Rows
end Go.Proofs.YbulkaglsFmt
