/-
  No cell of these rows narrows 'for every input' (looked for: loops, veiled, ifaces, maps, wideKeys, modest, calm, conditions, laid).
  DERIVED. THE GIVEN ROWS OF THIS SEAT. 1 by the template 'for every input the law returns true; each argument reads behind the call as it read before'; 0 by the template 'total and deterministic' (their statements: YbulkaglsTotals.lean).
  GIVEN WITH THE SEED: the statements are not yours to turn. If you find one false, say at which input.
  Laid BY PROGRAM, IN A SANDBOX (cutbox-rows.mjs): the forced cells as the released guide's own fill.sh prints them over the translation 994c955aa453437a… (all of the seat's roots in one cut). By AI agents, Wed Nov 11 2026. No macro, syntax, notation, axiom, sorry.
-/
import Derived.Test.YbulkaglsChecked
import GoSem.Claim
import GoSem.ClaimJoined
import GoSem.ClaimMapViews
import Derived.JoinedTies
import Derived.KernelRfl
namespace Go.Proofs.Ybulkagls
/- THE CELL 'sum', in the pinned program and in every row, IS THE sha256 OF THE DUMP (.gsa) THAT YbulkaglsProg.lean LOADS. Nothing in Lean hashes anything: it is a label: what it is worth is what the hold of that sum in a sandbox is worth. -/
noncomputable def Yba.pinned : Pinned := { name := "ybulkagls", sum := "994c955aa453437a9d866c85e7dc058678e175f515a1567bff0c5faba173cd91", checked := Yba.checked }
namespace Rows
def none {H : Type} : Left H := { results := [], args := [] }

/-- 'windrose.LawS1617CLeast': WHATEVER THE INPUT: true; the input reads as it did. -/
def lawS1617CLeastSpec : ChangeSpec := { name := "lawS1617CLeast", fn := fun _ => fun
  | [d1, d2, d3, d4, d5] => { results := [.lit (.bool true)], args := [d1, d2, d3, d4, d5] }
  | _ => none }
def lawS1617CLeastRow : OpenClaim := { program := "ybulkagls", sum := "994c955aa453437a9d866c85e7dc058678e175f515a1567bff0c5faba173cd91", func := "example.com/windrose/windrose.LawS1617CLeast", spec := "lawS1617CLeast", unfollowed := true, recurses := true, apart := false }
def LawS1617CLeastSaid : Prop := lawS1617CLeastRow.holds Yba.pinned (OpenSpec.ofChange lawS1617CLeastSpec)

/-- ITS FALSE NEIGHBOUR: 'it returns false'. Refute it at one input. -/
def lawS1617CLeastWrong : ChangeSpec := { name := "lawS1617CLeast", fn := fun _ => fun
  | [d1, d2, d3, d4, d5] => { results := [.lit (.bool false)], args := [d1, d2, d3, d4, d5] }
  | _ => none }
def LawS1617CLeastWrongFalsely : Prop := lawS1617CLeastRow.holds Yba.pinned (OpenSpec.ofChange lawS1617CLeastWrong)

end Rows
end Go.Proofs.Ybulkagls
