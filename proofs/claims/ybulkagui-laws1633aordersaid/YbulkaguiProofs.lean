/-
  THE ROW of LawS1633AOrder over its walk.
-/
import Derived.Test.YbulkaguiLaw
import Derived.ProofKit
import Derived.OpenShut
import Derived.ChangeOld
import Derived.Below
import Derived.Deep.Slices
import Derived.Lib.SmallJoins
namespace Go.Proofs.Ybulkagui
open Go.ChangeShapes Go.WideShapes Go.ChangeAt Go.RowKit
open Go.Deep Go.Joins

theorem own : ownKnob Yba.prog.godebug = none := by kernel_rfl
theorem laidOut : laidOutB Yba.prog = true := by kernel_rfl
theorem cells5 : Yba.prog.cellsOf 5 = 1 := by kernel_rfl
theorem cells4 : Yba.prog.cellsOf 4 = 1 := by kernel_rfl

theorem cells1_inv {W : World} {a : Addr} {cs : List Value} (h : W.cells? 0 a 1 = some cs) : ∃ c0, cs = [c0] ∧ W.cell? (a.add 0) = some c0 := by
  simp only [World.cells?, Nat.zero_le, if_true] at h
  rw [show List.range 1 = [0] from rfl] at h
  simp only [List.mapM_cons, List.mapM_nil] at h
  cases h0 : W.cell? (a.add 0) <;> simp [h0] at h
  exact ⟨_, h.symm, rfl⟩

/-- The first argument, opened. -/
theorem view8 {H : Type} {enc : TypeId × Value → H} {W : World} {spare : Nat → Bool} {held : Bool} {ad : Option Addr} {len cap : Nat} {d : DataW H} {p : List MemPlace} (h : DataW.Trod enc Yba.prog W 0 spare held 22 (.slice ad len cap) d p) :
    ∃ (b off : Nat) (x : Nat → Nat), len ≤ maxLen ∧ (len ≠ 0 → ad = some ⟨b, off, none⟩) ∧ (∀ j, j < len → W.cell? ⟨b, off + j, none⟩ = some (.int .u8 (x j : Int))) ∧ ∀ j, j < len → x j ≤ 255 := by
  obtain ⟨fuel, hf⟩ := h
  rcases open_slice Yba.underlying22 hf with ⟨hcs, _⟩ | ⟨a, len', cap', m, n, D, Pl, hcs, _, hl, hm, hmm, _, he⟩
  · simp [Value.cells] at hcs
    obtain ⟨rfl, rfl, rfl⟩ := hcs
    exact ⟨0, 0, fun _ => 0, Nat.zero_le _, fun h => absurd rfl h, fun j hj => absurd hj (by omega), fun j hj => absurd hj (by omega)⟩
  · simp [Value.cells] at hcs
    obtain ⟨rfl, rfl, rfl⟩ := hcs
    have hlm : len ≤ m := by rw [hmm]; split <;> omega
    have hall : ∀ i, i < len → ∃ z : Nat, z ≤ 255 ∧ W.cell? ((a.add (i * 1)).add 0) = some (.int .u8 (z : Int)) := fun i hi => by
      obtain ⟨cs', h1, h2⟩ := he i (by omega)
      rw [cells5] at h1
      obtain ⟨c0, rfl, k0⟩ := cells1_inv h1
      obtain ⟨A, e0, _, wA⟩ := DataW.trod_int Yba.underlying5 h2
      simp at e0
      subst e0
      simp [Lit.wf, IntKind.min, IntKind.max, IntKind.signed, IntKind.bits] at wA
      exact ⟨A.toNat, by omega, by rw [Int.toNat_of_nonneg (by omega)]; exact k0⟩
    obtain ⟨f, hf'⟩ := choose_lt hall
    obtain ⟨b, off, spot⟩ := a
    by_cases h0 : len = 0
    · exact ⟨0, 0, fun _ => 0, by omega, fun h => absurd h0 h, fun j hj => absurd hj (by omega), fun j hj => absurd hj (by omega)⟩
    · have hspot : spot = none := by
        have := World.cell?_spot (hf' 0 (by omega)).2
        simpa [Addr.add] using this
      subst hspot
      refine ⟨b, off, f, by omega, fun _ => rfl, fun j hj => ?_, fun j hj => (hf' j hj).1⟩
      have k0 := (hf' j hj).2
      simp only [Addr.add_mid, Nat.add_zero, Nat.mul_one] at k0
      exact k0

/-- The second argument, opened. -/
theorem viewB {H : Type} {enc : TypeId × Value → H} {W : World} {spare : Nat → Bool} {held : Bool} {ad : Option Addr} {len cap : Nat} {d : DataW H} {p : List MemPlace} (h : DataW.Trod enc Yba.prog W 0 spare held 23 (.slice ad len cap) d p) :
    ∃ (b off : Nat) (s : Nat → Bool), len ≤ maxLen ∧ Skips W ad b off len s := by
  obtain ⟨fuel, hf⟩ := h
  rcases open_slice Yba.underlying23 hf with ⟨hcs, _⟩ | ⟨a, len', cap', m, n, D, Pl, hcs, _, hl, hm, hmm, _, he⟩
  · simp [Value.cells] at hcs
    obtain ⟨rfl, rfl, rfl⟩ := hcs
    exact ⟨0, 0, fun _ => false, Nat.zero_le _, fun h => absurd rfl h, fun j hj => absurd hj (by omega)⟩
  · simp [Value.cells] at hcs
    obtain ⟨rfl, rfl, rfl⟩ := hcs
    have hlm : len ≤ m := by rw [hmm]; split <;> omega
    have hall : ∀ i, i < len → ∃ z : Bool, W.cell? ((a.add (i * 1)).add 0) = some (.bool z) := fun i hi => by
      obtain ⟨cs', h1, h2⟩ := he i (by omega)
      rw [cells4] at h1
      obtain ⟨c0, rfl, k0⟩ := cells1_inv h1
      obtain ⟨A, e0, _⟩ := DataW.trod_bool Yba.underlying4 h2
      simp at e0
      subst e0
      exact ⟨A, k0⟩
    obtain ⟨f, hf'⟩ := choose_lt hall
    obtain ⟨b, off, spot⟩ := a
    by_cases h0 : len = 0
    · exact ⟨0, 0, fun _ => false, by omega, fun h => absurd h0 h, fun j hj => absurd hj (by omega)⟩
    · have hspot : spot = none := by
        have := World.cell?_spot (hf' 0 (by omega))
        simpa [Addr.add] using this
      subst hspot
      refine ⟨b, off, f, by omega, fun _ => rfl, fun j hj => ?_⟩
      have k0 := hf' j hj
      simp only [Addr.add_mid, Nat.add_zero, Nat.mul_one] at k0
      exact k0

theorem cell_lt {W : World} {b o : Nat} {v : Value} (h : W.cell? ⟨b, o, none⟩ = some v) : b < W.heap.size := by
  rcases Nat.lt_or_ge b W.heap.size with h1 | h1
  · exact h1
  · exfalso
    unfold World.cell? at h
    rw [Array.getElem?_eq_none h1] at h
    simp at h

set_option maxRecDepth 100000 in
theorem lifted (os : Os) (started : os.Started) (H : Type) (enc : TypeId × Value → H) :
    ReturnsInHanded {} Yba.checked os 3 .any (Rows.lawS1633AOrderSpec.pre6 enc Yba.prog Yba.f3 Rows.lawS1633AOrderRow.domain false) (Rows.lawS1633AOrderSpec.post enc Yba.prog Yba.f3 false true false false) := by
  refine returnsInHanded_of_change (C := Yba.checked) own started (by kernel_rfl) Yba.func3
    (ChangeSpec.witness6 (enc := enc) (C := Yba.checked) false ⟨#[], #[.slice none 0 0, .slice none 0 0], []⟩ 8 (by kernel_rfl) (by kernel_rfl) (by kernel_rfl) (by kernel_rfl)) ?_
  intro W base args ds gs before hval0 hW hcnd _
  have hval : ∀ (j : Nat) t v, Yba.f3.params[j]? = some t → args[j]? = some v → Value.okWide Yba.prog W .any base t v := hval0
  have hW' := hW
  obtain ⟨p, q, hA0, hV, rfl, hfz, hnd⟩ := hW
  have hA : DataW.TrodAll enc Yba.prog W 0 (fun _ => true) true Yba.f3.params.toList args.toList ds p := hA0
  rw [Yba.params3] at hA hval
  obtain ⟨v0, vs0, d0, ds0, p0, q0, hargs, rfl, rfl, h0, r0⟩ := trodAll_cons hA
  obtain ⟨v1, vs1, d1, ds1, p1, q1, rfl, rfl, rfl, h1, r1⟩ := trodAll_cons r0
  obtain ⟨rfl, rfl, rfl⟩ := trodAll_nil r1
  obtain rfl : args = #[v0, v1] := by cases args; simp_all
  obtain ⟨rfl, rfl⟩ := trodVars_none hV
  obtain ⟨a0, len0, cap0, rfl⟩ := okWide_slice Yba.underlying22 (hval 0 22 v0 rfl rfl)
  obtain ⟨a1, len1, cap1, rfl⟩ := okWide_slice Yba.underlying23 (hval 1 23 v1 rfl rfl)
  have k0 := h0
  have k1 := h1
  have lt0 : ∀ x ∈ p0, x.block < W.heap.size := by obtain ⟨m, hm⟩ := k0; exact DataW.trod_lt m _ _ _ hm
  have lt1 : ∀ x ∈ p1, x.block < W.heap.size := by obtain ⟨m, hm⟩ := k1; exact DataW.trod_lt m _ _ _ hm
  obtain ⟨pb, poff, x, hpl, had, hx, hx2⟩ := view8 h0
  obtain ⟨b, off, s, hsl, hS⟩ := viewB h1
  clear hA0 hval0
  refine (order_walk a0 pb poff len0 cap0 x a1 b off len1 cap1 s W hpl had hx hx2 (fun h0 => cell_lt (hx 0 (by omega))) hsl hS (fun h0 => cell_lt (hS.cell 0 (by omega)))).mono fun e W' ⟨he, si⟩ => ?_
  have bel : Below W.heap.size W W' := ⟨si.os, si.tape, si.output, si.size, si.block⟩
  subst he
  exact ⟨_, rfl, _, _, _, [], _, [], hW', trodAll_mk1 (shut_bool Yba.underlying4 _), (trodAll_cons_mk (Below.trod laidOut (by kernel_rfl) (of_decide_eq_true (by kernel_rfl)) k0 bel lt0) (trodAll_cons_mk (Below.trod laidOut (by kernel_rfl) (of_decide_eq_true (by kernel_rfl)) k1 bel lt1) trodAll_mk0)), rfl, bel.frame _, fun h => by cases h⟩

/-- The statement. -/
theorem proved : Rows.LawS1633AOrderSaid :=
  OpenClaim.holds_of_wide 3 Yba.f3 rfl rfl rfl rfl rfl rfl rfl ⟨rfl, rfl, rfl, rfl, rfl⟩ rfl rfl rfl rfl rfl (by kernel_rfl) Yba.func3 (by kernel_rfl)
    (of_decide_eq_true (by kernel_rfl)) (by unfold Func.isWrapper; first | (rw [if_pos (by decide +kernel)]; kernel_rfl) | (rw [if_neg (by decide +kernel)]; exact ⟨rfl, rfl⟩))
    (fun os started H enc _ => lifted os started H enc)
#print axioms proved
end Go.Proofs.Ybulkagui
