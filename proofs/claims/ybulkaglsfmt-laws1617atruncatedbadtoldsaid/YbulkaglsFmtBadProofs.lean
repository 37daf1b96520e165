/-
  THE TOLD CARD of LawS1617ATruncatedBad over its walk.
-/
import Derived.Test.YbulkaglsFmtBad
import Derived.ProofKit
import Derived.OpenShut
import Derived.ChangeOld
import Derived.Below
import Derived.Stop.JoinedTold
import Derived.SevenToldRow
import Derived.Deep.Slices
import Derived.Lib.SmallJoins
namespace Go.Proofs.YbulkaglsFmt
open Go.ChangeShapes Go.WideShapes Go.ChangeAt Go.RowKit
open Go.Extern.Stop Go.Stop Go.Extern
open Go.Deep Go.Joins

theorem own : ownKnob Ybaf.prog.godebug = none := by kernel_rfl
theorem laidOut : laidOutB Ybaf.prog = true := by kernel_rfl
theorem stops : Ybaf.pinned.checked.prog.stops = ["fmt.Sprintf", "fmt.errorf"] := by kernel_rfl
theorem stopKnobs : Ybaf.pinned.checked.prog.stopKnobs = [] := by kernel_rfl
theorem quiet (os : Os) : Stop.quiet Ybaf.pinned.checked.prog os := by
  intro k hk
  rw [stopKnobs] at hk
  cases hk

theorem cells5 : Ybaf.prog.cellsOf 5 = 1 := by kernel_rfl

theorem cells1_inv {W : World} {a : Addr} {cs : List Value} (h : W.cells? 0 a 1 = some cs) : ∃ c0, cs = [c0] ∧ W.cell? (a.add 0) = some c0 := by
  simp only [World.cells?, Nat.zero_le, if_true] at h
  rw [show List.range 1 = [0] from rfl] at h
  simp only [List.mapM_cons, List.mapM_nil] at h
  cases h0 : W.cell? (a.add 0) <;> simp [h0] at h
  exact ⟨_, h.symm, rfl⟩

/-- The argument, opened. -/
theorem view {H : Type} {enc : TypeId × Value → H} {W : World} {spare : Nat → Bool} {held : Bool} {ad : Option Addr} {len cap : Nat} {d : DataW H} {p : List MemPlace} (h : DataW.Trod enc Ybaf.prog W 0 spare held 22 (.slice ad len cap) d p) :
    ∃ (b off : Nat) (x : Nat → Int), len ≤ maxLen ∧ (len ≠ 0 → ad = some ⟨b, off, none⟩) ∧ (∀ j, j < len → W.cell? ⟨b, off + j, none⟩ = some (.int .u8 (x j))) ∧ ∀ j, j < len → 0 ≤ x j ∧ x j ≤ 255 := by
  obtain ⟨fuel, hf⟩ := h
  rcases open_slice Ybaf.underlying22 hf with ⟨hcs, _⟩ | ⟨a, len', cap', m, n, D, Pl, hcs, _, hl, hm, hmm, _, he⟩
  · simp [Value.cells] at hcs
    obtain ⟨rfl, rfl, rfl⟩ := hcs
    exact ⟨0, 0, fun _ => 0, Nat.zero_le _, fun h => absurd rfl h, fun j hj => absurd hj (by omega), fun j hj => absurd hj (by omega)⟩
  · simp [Value.cells] at hcs
    obtain ⟨rfl, rfl, rfl⟩ := hcs
    have hlm : len ≤ m := by rw [hmm]; split <;> omega
    have hall : ∀ i, i < len → ∃ z : Int, (0 ≤ z ∧ z ≤ 255) ∧ W.cell? ((a.add (i * 1)).add 0) = some (.int .u8 z) := fun i hi => by
      obtain ⟨cs', h1, h2⟩ := he i (by omega)
      rw [cells5] at h1
      obtain ⟨c0, rfl, k0⟩ := cells1_inv h1
      obtain ⟨A, e0, _, wA⟩ := DataW.trod_int Ybaf.underlying5 h2
      simp at e0
      subst e0
      refine ⟨A, ?_, k0⟩
      simp [Lit.wf, IntKind.min, IntKind.max, IntKind.signed, IntKind.bits] at wA
      exact ⟨by omega, by omega⟩
    obtain ⟨f, hf'⟩ := choose_lt hall
    obtain ⟨b, off, spot⟩ := a
    by_cases h0 : len = 0
    · exact ⟨0, 0, fun _ => 0, by omega, fun h => absurd h0 h, fun j hj => absurd hj (by omega), fun j hj => absurd hj (by omega)⟩
    · have hspot : spot = none := by
        have := World.cell?_spot (hf' 0 (by omega)).2
        simpa [Addr.add] using this
      subst hspot
      refine ⟨b, off, f, by omega, fun _ => rfl, fun j hj => ?_, fun j hj => (hf' j hj).1⟩
      have k0 := (hf' j hj).2
      simp only [Addr.add_mid, Nat.add_zero, Nat.mul_one] at k0
      exact k0

theorem cell_lt {W : World} {b o : Nat} {v : Value} (h : W.cell? ⟨b, o, none⟩ = some v) : b < W.heap.size := by
  rcases Nat.lt_or_ge b W.heap.size with h1 | h1
  · exact h1
  · exfalso
    unfold World.cell? at h
    rw [Array.getElem?_eq_none h1] at h
    simp at h

set_option maxRecDepth 100000 in
theorem bad_lifted (os : Os) (started : os.Started) (H : Type) (enc : TypeId × Value → H) :
    ReturnsInTold none {} Ybaf.checked os 5 .any Input.okWide ((OpenSpec.ofChange Rows.lawS1617ATruncatedBadSpec).preRow enc Ybaf.prog Ybaf.f5 [] false []) (fun F => ((OpenSpec.ofChange Rows.lawS1617ATruncatedBadSpec).at F).post enc Ybaf.prog Ybaf.f5 false true false false) (aloneAtReturn Ybaf.prog) nothingAlways := by
  refine returnsInTold_of_row (C := Ybaf.checked) (s := OpenSpec.ofChange Rows.lawS1617ATruncatedBadSpec) (by kernel_rfl) own started (by kernel_rfl) Ybaf.func5
    (OpenSpec.witness_stopped (enc := enc) (C := Ybaf.checked) false ⟨#[], #[.slice none 0 0, .bool false], []⟩ 8 (by kernel_rfl) (by kernel_rfl) (by kernel_rfl) (by kernel_rfl)) ?_
  intro F W base args ds gs before _ hF hval0 hW _ _ hsz _ _
  have hval : ∀ (j : Nat) t v, Ybaf.f5.params[j]? = some t → args[j]? = some v → Value.okWide Ybaf.prog W .any base t v := hval0
  have hW' := hW
  obtain ⟨p, q, hA0, hV, rfl, hfz, hnd⟩ := hW
  have hA : DataW.TrodAll enc Ybaf.prog W 0 (fun _ => true) true Ybaf.f5.params.toList args.toList ds p := hA0
  rw [Ybaf.params5] at hA hval
  obtain ⟨v0, vs0, d0, ds0, p0, q0, hargs, rfl, rfl, h0, r0⟩ := trodAll_cons hA
  obtain ⟨v1, vs1, d1, ds1, p1, q1, rfl, rfl, rfl, h1, r1⟩ := trodAll_cons r0
  obtain ⟨rfl, rfl, rfl⟩ := trodAll_nil r1
  obtain rfl : args = #[v0, v1] := by cases args; simp_all
  obtain ⟨rfl, rfl⟩ := trodVars_none hV
  obtain ⟨a0, len0, cap0, rfl⟩ := okWide_slice Ybaf.underlying22 (hval 0 22 v0 rfl rfl)
  have k0 := h0
  have lt0 : ∀ x ∈ p0, x.block < W.heap.size := by obtain ⟨m, hm⟩ := k0; exact DataW.trod_lt m _ _ _ hm
  obtain ⟨b, off, x, hml, had, hx, hx2⟩ := view h0
  obtain ⟨dict, rfl, rfl, rfl⟩ := open_bool Ybaf.underlying4 (hval 1 4 v1 rfl rfl) h1
  clear hA0 hval0
  refine (bad_walk F.told a0 b off len0 cap0 dict x W hF hml had hx hx2 (fun h0 => cell_lt (hx 0 (by omega)))).mono fun e W' ⟨he, bel⟩ => ?_
  subst he
  exact ⟨_, rfl, _, _, _, [], _, [], hW', trodAll_mk1 (shut_bool Ybaf.underlying4 _), (trodAll_cons_mk (Below.trod laidOut (by kernel_rfl) (of_decide_eq_true (by kernel_rfl)) k0 bel lt0) (trodAll_cons_mk (shut_bool Ybaf.underlying4 _) trodAll_mk0)), rfl, bel.frame _, fun h => by cases h⟩

/-- The statement. -/
theorem bad_proved : Rows.LawS1617ATruncatedBadToldSaid :=
  Claim7.holds_of_told_any 5 Ybaf.f5 "fmt.Sprintf" ["fmt.errorf"] [] _ _ _ (by kernel_rfl) rfl rfl rfl laidOut (by kernel_rfl) rfl ⟨rfl, rfl, rfl, rfl, rfl, rfl, rfl⟩ rfl rfl (by kernel_rfl) (by kernel_rfl) Ybaf.func5 (by kernel_rfl)
    (of_decide_eq_true (by kernel_rfl)) (of_decide_eq_true (by kernel_rfl)) stops.symm rfl stopKnobs.symm (by kernel_rfl)
    (by kernel_rfl) (by kernel_rfl) (by kernel_rfl) (by kernel_rfl) (by kernel_rfl) (by kernel_rfl) (by kernel_rfl) (by kernel_rfl) (by kernel_rfl) rfl (by kernel_rfl) rfl rfl
    rfl rfl
    rfl (by kernel_rfl) (by kernel_rfl) (by kernel_rfl) (by decide) (by kernel_rfl)
    (OpenClaim.moreEntering_of (by kernel_rfl) (by kernel_rfl) (by kernel_rfl) (by kernel_rfl) (by kernel_rfl) (by kernel_rfl) (by kernel_rfl) (by kernel_rfl) (by kernel_rfl) (by kernel_rfl))
    ⟨_, WideRow.started_initial, quiet _⟩
    (fun os started _ H enc _ => bad_lifted os started H enc)
#print axioms bad_proved
end Go.Proofs.YbulkaglsFmt
