/-
  No cell of these rows narrows 'for every input' (looked for: loops, veiled, ifaces, maps, wideKeys, modest, calm, conditions, laid).
  DERIVED. THE GIVEN ROWS OF THIS SEAT. 2 by the template 'for every input the law returns true; each argument reads behind the call as it read before'; 0 by the template 'total and deterministic' (their statements: YbulkagpmTotals.lean).
  GIVEN WITH THE SEED: the statements are not yours to turn. If you find one false, say at which input.
  Laid BY PROGRAM, IN A SANDBOX (cutbox-rows.mjs): the forced cells as the released guide's own fill.sh prints them over the translation 504bcc9ed86fc9a5… (all of the seat's roots in one cut). By AI agents, Wed Nov 11 2026. No macro, syntax, notation, axiom, sorry.
-/
import Derived.Test.YbulkagpmChecked
import GoSem.Claim
import GoSem.ClaimJoined
import GoSem.ClaimMapViews
import Derived.JoinedTies
import Derived.KernelRfl
namespace Go.Proofs.Ybulkagpm
/- THE CELL 'sum', in the pinned program and in every row, IS THE sha256 OF THE DUMP (.gsa) THAT YbulkagpmProg.lean LOADS. Nothing in Lean hashes anything: it is a label: what it is worth is what the hold of that sum in a sandbox is worth. -/
noncomputable def Yba.pinned : Pinned := { name := "ybulkagpm", sum := "504bcc9ed86fc9a5e83894f72672fccdae4d9ecdb8be4385c9162a6ff82b19ad", checked := Yba.checked }
namespace Rows
def none {H : Type} : Left H := { results := [], args := [] }

/-- 'escape.LawS1624BFields': WHATEVER THE INPUT: true; the input reads as it did. -/
def lawS1624BFieldsSpec : ChangeSpec := { name := "lawS1624BFields", fn := fun _ => fun
  | [d1, d2] => { results := [.lit (.bool true)], args := [d1, d2] }
  | _ => none }
def lawS1624BFieldsRow : OpenClaim := { program := "ybulkagpm", sum := "504bcc9ed86fc9a5e83894f72672fccdae4d9ecdb8be4385c9162a6ff82b19ad", func := "example.com/dotwalk/dotwalk/internal/escape.LawS1624BFields", spec := "lawS1624BFields", apart := false }
def LawS1624BFieldsSaid : Prop := lawS1624BFieldsRow.holds Yba.pinned (OpenSpec.ofChange lawS1624BFieldsSpec)

/-- ITS FALSE NEIGHBOUR: 'it returns false'. Refute it at one input. -/
def lawS1624BFieldsWrong : ChangeSpec := { name := "lawS1624BFields", fn := fun _ => fun
  | [d1, d2] => { results := [.lit (.bool false)], args := [d1, d2] }
  | _ => none }
def LawS1624BFieldsWrongFalsely : Prop := lawS1624BFieldsRow.holds Yba.pinned (OpenSpec.ofChange lawS1624BFieldsWrong)

/-- 'escape.LawS1624BFresh': WHATEVER THE INPUT: true; the input reads as it did. -/
def lawS1624BFreshSpec : ChangeSpec := { name := "lawS1624BFresh", fn := fun _ => fun
  | [d1, d2] => { results := [.lit (.bool true)], args := [d1, d2] }
  | _ => none }
def lawS1624BFreshRow : OpenClaim := { program := "ybulkagpm", sum := "504bcc9ed86fc9a5e83894f72672fccdae4d9ecdb8be4385c9162a6ff82b19ad", func := "example.com/dotwalk/dotwalk/internal/escape.LawS1624BFresh", spec := "lawS1624BFresh", apart := false }
def LawS1624BFreshSaid : Prop := lawS1624BFreshRow.holds Yba.pinned (OpenSpec.ofChange lawS1624BFreshSpec)

/-- ITS FALSE NEIGHBOUR: 'it returns false'. Refute it at one input. -/
def lawS1624BFreshWrong : ChangeSpec := { name := "lawS1624BFresh", fn := fun _ => fun
  | [d1, d2] => { results := [.lit (.bool false)], args := [d1, d2] }
  | _ => none }
def LawS1624BFreshWrongFalsely : Prop := lawS1624BFreshRow.holds Yba.pinned (OpenSpec.ofChange lawS1624BFreshWrong)

end Rows
end Go.Proofs.Ybulkagpm
