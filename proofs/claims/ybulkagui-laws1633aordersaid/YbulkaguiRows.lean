/-
  No cell of these rows narrows 'for every input' (looked for: loops, veiled, ifaces, maps, wideKeys, modest, calm, conditions, laid).
  DERIVED. THE GIVEN ROWS OF THIS SEAT. 1 by the template 'for every input the law returns true; each argument reads behind the call as it read before'; 0 by the template 'total and deterministic' (their statements: YbulkaguiTotals.lean).
  GIVEN WITH THE SEED: the statements are not yours to turn. If you find one false, say at which input.
  Laid BY PROGRAM, IN A SANDBOX (cutbox-rows.mjs): the forced cells as the released guide's own fill.sh prints them over the translation b292ad6ef5888e79… (all of the seat's roots in one cut). By AI agents, Wed Nov 11 2026. No macro, syntax, notation, axiom, sorry.
-/
import Derived.Test.YbulkaguiChecked
import GoSem.Claim
import GoSem.ClaimJoined
import GoSem.ClaimMapViews
import Derived.JoinedTies
import Derived.KernelRfl
namespace Go.Proofs.Ybulkagui
/- THE CELL 'sum', in the pinned program and in every row, IS THE sha256 OF THE DUMP (.gsa) THAT YbulkaguiProg.lean LOADS. Nothing in Lean hashes anything: it is a label: what it is worth is what the hold of that sum in a sandbox is worth. -/
noncomputable def Yba.pinned : Pinned := { name := "ybulkagui", sum := "b292ad6ef5888e79b42c6fa56045fae6a8f55a10938fd5f5bc834dc65203f26b", checked := Yba.checked }
namespace Rows
def none {H : Type} : Left H := { results := [], args := [] }

/-- 'tree.LawS1633AOrder': WHATEVER THE INPUT: true; the input reads as it did. -/
def lawS1633AOrderSpec : ChangeSpec := { name := "lawS1633AOrder", fn := fun _ => fun
  | [d1, d2] => { results := [.lit (.bool true)], args := [d1, d2] }
  | _ => none }
def lawS1633AOrderRow : OpenClaim := { program := "ybulkagui", sum := "b292ad6ef5888e79b42c6fa56045fae6a8f55a10938fd5f5bc834dc65203f26b", func := "example.com/tansaku/tansaku/internal/tree.LawS1633AOrder", spec := "lawS1633AOrder", recurses := true, apart := false }
def LawS1633AOrderSaid : Prop := lawS1633AOrderRow.holds Yba.pinned (OpenSpec.ofChange lawS1633AOrderSpec)

/-- ITS FALSE NEIGHBOUR: 'it returns false'. Refute it at one input. -/
def lawS1633AOrderWrong : ChangeSpec := { name := "lawS1633AOrder", fn := fun _ => fun
  | [d1, d2] => { results := [.lit (.bool false)], args := [d1, d2] }
  | _ => none }
def LawS1633AOrderWrongFalsely : Prop := lawS1633AOrderRow.holds Yba.pinned (OpenSpec.ofChange lawS1633AOrderWrong)

end Rows
end Go.Proofs.Ybulkagui
