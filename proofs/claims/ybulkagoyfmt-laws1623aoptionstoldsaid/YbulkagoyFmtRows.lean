/-
  No cell of these rows narrows 'for every input' (looked for: loops, veiled, ifaces, maps, wideKeys, modest, calm, conditions, laid).
  DERIVED. THE GIVEN ROWS OF THIS SEAT. 2 by the template 'for every input the law returns true; each argument reads behind the call as it read before'; 0 by the template 'total and deterministic' (their statements: YbulkagoyFmtTotals.lean).
  GIVEN WITH THE SEED: the statements are not yours to turn. If you find one false, say at which input.
  Laid BY PROGRAM, IN A SANDBOX (cutbox-rows.mjs): the forced cells as the released guide's own fill.sh prints them over the translation f16f6373c383a4a3… (all of the seat's roots in one cut). By AI agents, Wed Nov 11 2026. No macro, syntax, notation, axiom, sorry.
-/
import Derived.Test.YbulkagoyFmtChecked
import GoSem.Claim
import GoSem.ClaimJoined
import GoSem.ClaimMapViews
import Derived.JoinedTies
import Derived.KernelRfl
namespace Go.Proofs.YbulkagoyFmt
/- THE CELL 'sum', in the pinned program and in every row, IS THE sha256 OF THE DUMP (.gsa) THAT YbulkagoyFmtProg.lean LOADS. Nothing in Lean hashes anything: it is a label: what it is worth is what the hold of that sum in a sandbox is worth. -/
noncomputable def Ybaf.pinned : Pinned := { name := "ybulkagoyfmt", sum := "f16f6373c383a4a36e9a7e25eeadfde90d32d9a7f5466838e6c24a66ca9e2863", checked := Ybaf.checked }
namespace Rows
def none {H : Type} : Left H := { results := [], args := [] }

/-- 'holdfast.LawS1623AIds': WHATEVER THE INPUT: true; the input reads as it did. -/
def lawS1623AIdsSpec : ChangeSpec := { name := "lawS1623AIds", fn := fun _ => fun
  | [d] => { results := [.lit (.bool true)], args := [d] }
  | _ => none }
def lawS1623AIdsRow : OpenClaim := { program := "ybulkagoyfmt", sum := "f16f6373c383a4a36e9a7e25eeadfde90d32d9a7f5466838e6c24a66ca9e2863", func := "example.com/holdfast/holdfast.LawS1623AIds", spec := "lawS1623AIds", stops := ["fmt.Sprintf"], inPlace := ["fmt.Sprintf", "(*internal/sync.Mutex).Lock", "internal/race.Disable", "sync/atomic.CompareAndSwapInt32", "internal/race.Enable", "internal/race.Acquire", "(*internal/sync.Mutex).lockSlow", "internal/sync.runtime_canSpin", "internal/sync.runtime_doSpin", "internal/sync.throw", "internal/sync.runtime_nanotime", "internal/sync.runtime_SemacquireMutex", "sync/atomic.AddInt32", "(*internal/sync.Mutex).Unlock", "internal/race.ReleaseMerge", "(*internal/sync.Mutex).unlockSlow", "internal/sync.fatal", "internal/sync.runtime_Semrelease"], unfollowed := true, recurses := true, plainKeys := false, apart := false }
/-- NO THEOREM (fmt's text is open here; it may be false): for the released tool's asking of the row's closed facts alone. THE STATEMENT IS 'LawS1623AIdsToldSaid' (YbulkagoyFmtCards.lean). -/
def LawS1623AIdsFormAsk : Prop := lawS1623AIdsRow.holds Ybaf.pinned (OpenSpec.ofChange lawS1623AIdsSpec)

/-- ITS FALSE NEIGHBOUR: 'it returns false'. Refute it at one input. -/
def lawS1623AIdsWrong : ChangeSpec := { name := "lawS1623AIds", fn := fun _ => fun
  | [d] => { results := [.lit (.bool false)], args := [d] }
  | _ => none }
def LawS1623AIdsWrongFormAsk : Prop := lawS1623AIdsRow.holds Ybaf.pinned (OpenSpec.ofChange lawS1623AIdsWrong)

/-- 'holdfast.LawS1623AOptions': WHATEVER THE INPUT: true; the input reads as it did. -/
def lawS1623AOptionsSpec : ChangeSpec := { name := "lawS1623AOptions", fn := fun _ => fun
  | [d1, d2] => { results := [.lit (.bool true)], args := [d1, d2] }
  | _ => none }
def lawS1623AOptionsRow : OpenClaim := { program := "ybulkagoyfmt", sum := "f16f6373c383a4a36e9a7e25eeadfde90d32d9a7f5466838e6c24a66ca9e2863", func := "example.com/holdfast/holdfast.LawS1623AOptions", spec := "lawS1623AOptions", stops := ["fmt.Sprintf"], inPlace := ["fmt.Sprintf", "(*internal/sync.Mutex).Lock", "internal/race.Disable", "sync/atomic.CompareAndSwapInt32", "internal/race.Enable", "internal/race.Acquire", "(*internal/sync.Mutex).lockSlow", "internal/sync.runtime_canSpin", "internal/sync.runtime_doSpin", "internal/sync.throw", "internal/sync.runtime_nanotime", "internal/sync.runtime_SemacquireMutex", "sync/atomic.AddInt32", "(*internal/sync.Mutex).Unlock", "internal/race.ReleaseMerge", "(*internal/sync.Mutex).unlockSlow", "internal/sync.fatal", "internal/sync.runtime_Semrelease"], unfollowed := true, recurses := true, plainKeys := false, apart := false }
/-- NO THEOREM (fmt's text is open here; it may be false): for the released tool's asking of the row's closed facts alone. THE STATEMENT IS 'LawS1623AOptionsToldSaid' (YbulkagoyFmtCards.lean). -/
def LawS1623AOptionsFormAsk : Prop := lawS1623AOptionsRow.holds Ybaf.pinned (OpenSpec.ofChange lawS1623AOptionsSpec)

/-- ITS FALSE NEIGHBOUR: 'it returns false'. Refute it at one input. -/
def lawS1623AOptionsWrong : ChangeSpec := { name := "lawS1623AOptions", fn := fun _ => fun
  | [d1, d2] => { results := [.lit (.bool false)], args := [d1, d2] }
  | _ => none }
def LawS1623AOptionsWrongFormAsk : Prop := lawS1623AOptionsRow.holds Ybaf.pinned (OpenSpec.ofChange lawS1623AOptionsWrong)

end Rows
end Go.Proofs.YbulkagoyFmt
