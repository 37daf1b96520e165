/-
  No cell of these rows narrows 'for every input' (looked for: loops, veiled, ifaces, maps, wideKeys, modest, calm, conditions, laid).
  DERIVED. THE GIVEN ROWS OF THIS SEAT. 3 by the template 'for every input the law returns true; each argument reads behind the call as it read before'; 0 by the template 'total and deterministic' (their statements: YbulkaglsFmtTotals.lean).
  GIVEN WITH THE SEED: the statements are not yours to turn. If you find one false, say at which input.
  Laid BY PROGRAM, IN A SANDBOX (cutbox-rows.mjs): the forced cells as the released guide's own fill.sh prints them over the translation e749913dcdca3643… (all of the seat's roots in one cut). By AI agents, Wed Nov 11 2026. No macro, syntax, notation, axiom, sorry.
-/
import Derived.Test.YbulkaglsFmtChecked
import GoSem.Claim
import GoSem.ClaimJoined
import GoSem.ClaimMapViews
import Derived.JoinedTies
import Derived.KernelRfl
namespace Go.Proofs.YbulkaglsFmt
/- THE CELL 'sum', in the pinned program and in every row, IS THE sha256 OF THE DUMP (.gsa) THAT YbulkaglsFmtProg.lean LOADS. Nothing in Lean hashes anything: it is a label: what it is worth is what the hold of that sum in a sandbox is worth. -/
noncomputable def Ybaf.pinned : Pinned := { name := "ybulkaglsfmt", sum := "e749913dcdca3643f3d3ef804289a03db8dd27167ac0295e09e1ba5d110305f0", checked := Ybaf.checked }
namespace Rows
def none {H : Type} : Left H := { results := [], args := [] }

/-- 'bencode.LawS1617ASkipsWhole': WHATEVER THE INPUT: true; the input reads as it did. -/
def lawS1617ASkipsWholeSpec : ChangeSpec := { name := "lawS1617ASkipsWhole", fn := fun _ => fun
  | [d1, d2] => { results := [.lit (.bool true)], args := [d1, d2] }
  | _ => none }
def lawS1617ASkipsWholeRow : OpenClaim := { program := "ybulkaglsfmt", sum := "e749913dcdca3643f3d3ef804289a03db8dd27167ac0295e09e1ba5d110305f0", func := "example.com/windrose/windrose/internal/bencode.LawS1617ASkipsWhole", spec := "lawS1617ASkipsWhole", stops := ["fmt.Sprintf", "fmt.errorf"], inPlace := ["fmt.Sprintf", "fmt.errorf", "internal/bytealg.Compare"], unfollowed := true, recurses := true, apart := false }
/-- NO THEOREM (fmt's text is open here; it may be false): for the released tool's asking of the row's closed facts alone. THE STATEMENT IS 'LawS1617ASkipsWholeToldSaid' (YbulkaglsFmtCards.lean). -/
def LawS1617ASkipsWholeFormAsk : Prop := lawS1617ASkipsWholeRow.holds Ybaf.pinned (OpenSpec.ofChange lawS1617ASkipsWholeSpec)

/-- ITS FALSE NEIGHBOUR: 'it returns false'. Refute it at one input. -/
def lawS1617ASkipsWholeWrong : ChangeSpec := { name := "lawS1617ASkipsWhole", fn := fun _ => fun
  | [d1, d2] => { results := [.lit (.bool false)], args := [d1, d2] }
  | _ => none }
def LawS1617ASkipsWholeWrongFormAsk : Prop := lawS1617ASkipsWholeRow.holds Ybaf.pinned (OpenSpec.ofChange lawS1617ASkipsWholeWrong)

/-- 'bencode.LawS1617AAtomNoop': WHATEVER THE INPUT: true; the input reads as it did. -/
def lawS1617AAtomNoopSpec : ChangeSpec := { name := "lawS1617AAtomNoop", fn := fun _ => fun
  | [d] => { results := [.lit (.bool true)], args := [d] }
  | _ => none }
def lawS1617AAtomNoopRow : OpenClaim := { program := "ybulkaglsfmt", sum := "e749913dcdca3643f3d3ef804289a03db8dd27167ac0295e09e1ba5d110305f0", func := "example.com/windrose/windrose/internal/bencode.LawS1617AAtomNoop", spec := "lawS1617AAtomNoop", stops := ["fmt.Sprintf", "fmt.errorf"], inPlace := ["fmt.Sprintf", "fmt.errorf", "internal/bytealg.Compare"], unfollowed := true, recurses := true, apart := false }
/-- NO THEOREM (fmt's text is open here; it may be false): for the released tool's asking of the row's closed facts alone. THE STATEMENT IS 'LawS1617AAtomNoopToldSaid' (YbulkaglsFmtCards.lean). -/
def LawS1617AAtomNoopFormAsk : Prop := lawS1617AAtomNoopRow.holds Ybaf.pinned (OpenSpec.ofChange lawS1617AAtomNoopSpec)

/-- ITS FALSE NEIGHBOUR: 'it returns false'. Refute it at one input. -/
def lawS1617AAtomNoopWrong : ChangeSpec := { name := "lawS1617AAtomNoop", fn := fun _ => fun
  | [d] => { results := [.lit (.bool false)], args := [d] }
  | _ => none }
def LawS1617AAtomNoopWrongFormAsk : Prop := lawS1617AAtomNoopRow.holds Ybaf.pinned (OpenSpec.ofChange lawS1617AAtomNoopWrong)

/-- 'bencode.LawS1617ATruncatedBad': WHATEVER THE INPUT: true; the input reads as it did. -/
def lawS1617ATruncatedBadSpec : ChangeSpec := { name := "lawS1617ATruncatedBad", fn := fun _ => fun
  | [d1, d2] => { results := [.lit (.bool true)], args := [d1, d2] }
  | _ => none }
def lawS1617ATruncatedBadRow : OpenClaim := { program := "ybulkaglsfmt", sum := "e749913dcdca3643f3d3ef804289a03db8dd27167ac0295e09e1ba5d110305f0", func := "example.com/windrose/windrose/internal/bencode.LawS1617ATruncatedBad", spec := "lawS1617ATruncatedBad", stops := ["fmt.Sprintf", "fmt.errorf"], inPlace := ["fmt.Sprintf", "fmt.errorf", "internal/bytealg.Compare"], unfollowed := true, recurses := true, apart := false }
/-- NO THEOREM (fmt's text is open here; it may be false): for the released tool's asking of the row's closed facts alone. THE STATEMENT IS 'LawS1617ATruncatedBadToldSaid' (YbulkaglsFmtCards.lean). -/
def LawS1617ATruncatedBadFormAsk : Prop := lawS1617ATruncatedBadRow.holds Ybaf.pinned (OpenSpec.ofChange lawS1617ATruncatedBadSpec)

/-- ITS FALSE NEIGHBOUR: 'it returns false'. Refute it at one input. -/
def lawS1617ATruncatedBadWrong : ChangeSpec := { name := "lawS1617ATruncatedBad", fn := fun _ => fun
  | [d1, d2] => { results := [.lit (.bool false)], args := [d1, d2] }
  | _ => none }
def LawS1617ATruncatedBadWrongFormAsk : Prop := lawS1617ATruncatedBadRow.holds Ybaf.pinned (OpenSpec.ofChange lawS1617ATruncatedBadWrong)

end Rows
end Go.Proofs.YbulkaglsFmt
