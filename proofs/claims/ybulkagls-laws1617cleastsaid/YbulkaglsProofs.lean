/-
  THE ROW of LawS1617CLeast over its walk.
-/
import Derived.Test.YbulkaglsLaw
import Derived.ProofKit
import Derived.OpenShut
import Derived.ChangeOld
import Derived.Below
import Derived.Deep.Slices
import Derived.Lib.SmallJoins
namespace Go.Proofs.Ybulkagls
open Go.ChangeShapes Go.WideShapes Go.ChangeAt Go.RowKit
open Go.Deep Go.Joins

theorem own : ownKnob Yba.prog.godebug = none := by kernel_rfl
theorem laidOut : laidOutB Yba.prog = true := by kernel_rfl
theorem cells35 : Yba.prog.cellsOf 35 = 4 := by kernel_rfl
theorem cells23 : Yba.prog.cellsOf 23 = 1 := by kernel_rfl
theorem cells3 : Yba.prog.cellsOf 3 = 1 := by kernel_rfl
theorem cells4 : Yba.prog.cellsOf 4 = 1 := by kernel_rfl

theorem min_of_wf {n : Int} (h : (Lit.int .i16 n).wf = true) : Min n := by
  simp [Lit.wf, IntKind.min, IntKind.max, IntKind.signed, IntKind.bits] at h
  exact ⟨by omega, by omega⟩

theorem cells4_inv {W : World} {a : Addr} {cs : List Value} (h : W.cells? 0 a 4 = some cs) : ∃ c0 c1 c2 c3, cs = [c0, c1, c2, c3] ∧ W.cell? (a.add 0) = some c0 ∧ W.cell? (a.add 1) = some c1 ∧ W.cell? (a.add 2) = some c2 ∧ W.cell? (a.add 3) = some c3 := by
  simp only [World.cells?, Nat.zero_le, if_true] at h
  rw [show List.range 4 = [0, 1, 2, 3] from rfl] at h
  simp only [List.mapM_cons, List.mapM_nil] at h
  cases h0 : W.cell? (a.add 0) <;> simp [h0] at h
  cases h1 : W.cell? (a.add 1) <;> simp [h1] at h
  cases h2 : W.cell? (a.add 2) <;> simp [h2] at h
  cases h3 : W.cell? (a.add 3) <;> simp [h3] at h
  exact ⟨_, _, _, _, h.symm, rfl, rfl, rfl, rfl⟩

theorem ent_of {H : Type} {enc : TypeId × Value → H} {W : World} {spare : Nat → Bool} {held : Bool} {n : Nat} {a : Addr} {cs : List Value} {D : DataW H} {Pl : List MemPlace} (hc : W.cells? 0 a 4 = some cs) (ht : DataW.trod enc Yba.prog W 0 spare held n 35 cs = some (D, Pl)) :
    ∃ (A Q F : Int) (V : Bool), Min A ∧ Min Q ∧ W.cell? (a.add 0) = some (.int .i16 A) ∧ W.cell? (a.add 1) = some (.int .i16 Q) ∧ W.cell? (a.add 2) = some (.int .i64 F) ∧ W.cell? (a.add 3) = some (.bool V) := by
  obtain ⟨c0, c1, c2, c3, rfl, h0, h1, h2, h3⟩ := cells4_inv hc
  obtain ⟨y0, y1, y2, y3, m, _, _, t0, t1, t2, t3⟩ := trod_struct4 Yba.underlying35 ht
  simp only [cells23, cells3, cells4] at t0 t1 t2 t3
  obtain ⟨A, e0, _, wA⟩ := DataW.trod_int Yba.underlying23 t0
  obtain ⟨Q, e1, _, wQ⟩ := DataW.trod_int Yba.underlying23 t1
  obtain ⟨F, e2, _, _⟩ := DataW.trod_int Yba.underlying3 t2
  obtain ⟨V, e3, _⟩ := DataW.trod_bool Yba.underlying4 t3
  simp at e0 e1 e2 e3
  subst e0 e1 e2 e3
  exact ⟨A, Q, F, V, min_of_wf wA, min_of_wf wQ, h0, h1, h2, h3⟩

/-- The argument, opened. -/
theorem view {H : Type} {enc : TypeId × Value → H} {W : World} {spare : Nat → Bool} {held : Bool} {ad : Option Addr} {len cap : Nat} {d : DataW H} {p : List MemPlace} (h : DataW.Trod enc Yba.prog W 0 spare held 22 (.slice ad len cap) d p) :
    ∃ (b off : Nat) (x : Ents), len ≤ maxLen ∧ (len ≠ 0 → ad = some ⟨b, off, none⟩) ∧ (∀ j, j < len → ArgAt W b off x j) ∧ ∀ j, j < len → Min (x.a j) ∧ Min (x.q j) := by
  obtain ⟨fuel, hf⟩ := h
  rcases open_slice Yba.underlying22 hf with ⟨hcs, _⟩ | ⟨a, len', cap', m, n, D, Pl, hcs, _, hl, hm, hmm, _, he⟩
  · simp [Value.cells] at hcs
    obtain ⟨rfl, rfl, rfl⟩ := hcs
    exact ⟨0, 0, ⟨fun _ => 0, fun _ => 0, fun _ => 0, fun _ => false⟩, Nat.zero_le _, fun h => absurd rfl h, fun j hj => absurd hj (by omega), fun j hj => absurd hj (by omega)⟩
  · simp [Value.cells] at hcs
    obtain ⟨rfl, rfl, rfl⟩ := hcs
    have hlm : len ≤ m := by rw [hmm]; split <;> omega
    have hall : ∀ i, i < len → ∃ z : Int × Int × Int × Bool, Min z.1 ∧ Min z.2.1 ∧ W.cell? ((a.add (i * 4)).add 0) = some (.int .i16 z.1) ∧ W.cell? ((a.add (i * 4)).add 1) = some (.int .i16 z.2.1) ∧ W.cell? ((a.add (i * 4)).add 2) = some (.int .i64 z.2.2.1) ∧ W.cell? ((a.add (i * 4)).add 3) = some (.bool z.2.2.2) := fun i hi => by
      obtain ⟨cs', h1, h2⟩ := he i (by omega)
      rw [cells35] at h1
      obtain ⟨A, Q, F, V, mA, mQ, k0, k1, k2, k3⟩ := ent_of h1 h2
      exact ⟨(A, Q, F, V), mA, mQ, k0, k1, k2, k3⟩
    obtain ⟨f, hf'⟩ := choose_lt hall
    obtain ⟨b, off, spot⟩ := a
    by_cases h0 : len = 0
    · exact ⟨0, 0, ⟨fun _ => 0, fun _ => 0, fun _ => 0, fun _ => false⟩, by omega, fun h => absurd h0 h, fun j hj => absurd hj (by omega), fun j hj => absurd hj (by omega)⟩
    · have hspot : spot = none := by
        have := World.cell?_spot (hf' 0 (by omega)).2.2.1
        simpa [Addr.add] using this
      subst hspot
      refine ⟨b, off, ⟨fun j => (f j).1, fun j => (f j).2.1, fun j => (f j).2.2.1, fun j => (f j).2.2.2⟩, by omega, fun _ => rfl, fun j hj => ?_, fun j hj => ⟨(hf' j hj).1, (hf' j hj).2.1⟩⟩
      obtain ⟨_, _, k0, k1, k2, k3⟩ := hf' j hj
      simp only [Addr.add_mid, Nat.add_zero] at k0 k1 k2 k3
      exact ⟨k0, k1, k2, k3⟩

theorem walk (ad : Option Addr) (b off len cap : Nat) (x : Ents) (n sel : Int) (us sv : Bool) (w : World) (hm0 : len ≤ maxLen) (had : len ≠ 0 → ad = some ⟨b, off, none⟩)
    (hx : ∀ j, j < len → ArgAt w b off x j) (hn : Min n) (hm : ∀ j, j < len → Min (x.a j) ∧ Min (x.q j)) (hsel : 0 ≤ sel ∧ sel ≤ 255) :
    Calls Yba.prog 3 #[.slice ad len cap, .int .i16 n, .int .u8 sel, .bool us, .bool sv] w fun e w' => e = .returned (.bool true) ∧ Below w.heap.size w w' := by
  by_cases h : len ≤ 1024
  · exact law_short ad b off len cap x n sel us sv w h had hx hn hm hsel
  · exact law_long ad len cap n sel us sv w hm0 h

set_option maxRecDepth 100000 in
theorem lifted (os : Os) (started : os.Started) (H : Type) (enc : TypeId × Value → H) :
    ReturnsInHanded {} Yba.checked os 3 .any (Rows.lawS1617CLeastSpec.pre6 enc Yba.prog Yba.f3 Rows.lawS1617CLeastRow.domain false) (Rows.lawS1617CLeastSpec.post enc Yba.prog Yba.f3 false true false false) := by
  refine returnsInHanded_of_change (C := Yba.checked) own started (by kernel_rfl) Yba.func3
    (ChangeSpec.witness6 (enc := enc) (C := Yba.checked) false ⟨#[], #[.slice none 0 0, .int .i16 0, .int .u8 0, .bool false, .bool false], []⟩ 8 (by kernel_rfl) (by kernel_rfl) (by kernel_rfl) (by kernel_rfl)) ?_
  intro W base args ds gs before hval0 hW hcnd _
  have hval : ∀ (j : Nat) t v, Yba.f3.params[j]? = some t → args[j]? = some v → Value.okWide Yba.prog W .any base t v := hval0
  have hW' := hW
  obtain ⟨p, q, hA0, hV, rfl, hfz, hnd⟩ := hW
  have hA : DataW.TrodAll enc Yba.prog W 0 (fun _ => true) true Yba.f3.params.toList args.toList ds p := hA0
  rw [Yba.params3] at hA hval
  obtain ⟨v0, vs0, d0, ds0, p0, q0, hargs, rfl, rfl, h0, r0⟩ := trodAll_cons hA
  obtain ⟨v1, vs1, d1, ds1, p1, q1, rfl, rfl, rfl, h1, r1⟩ := trodAll_cons r0
  obtain ⟨v2, vs2, d2, ds2, p2, q2, rfl, rfl, rfl, h2, r2⟩ := trodAll_cons r1
  obtain ⟨v3, vs3, d3, ds3, p3, q3, rfl, rfl, rfl, h3, r3⟩ := trodAll_cons r2
  obtain ⟨v4, vs4, d4, ds4, p4, q4, rfl, rfl, rfl, h4, r4⟩ := trodAll_cons r3
  obtain ⟨rfl, rfl, rfl⟩ := trodAll_nil r4
  obtain rfl : args = #[v0, v1, v2, v3, v4] := by cases args; simp_all
  obtain ⟨rfl, rfl⟩ := trodVars_none hV
  obtain ⟨a0, len0, cap0, rfl⟩ := okWide_slice Yba.underlying22 (hval 0 22 v0 rfl rfl)
  have k0 := h0
  have lt0 : ∀ x ∈ p0, x.block < W.heap.size := by obtain ⟨m, hm⟩ := k0; exact DataW.trod_lt m _ _ _ hm
  obtain ⟨b, off, x, hml, had, hx, hm⟩ := view h0
  obtain ⟨n, rfl, rfl, rfl, w1⟩ := open_int Yba.underlying23 (hval 1 23 v1 rfl rfl) h1
  obtain ⟨sel, rfl, rfl, rfl, w2⟩ := open_int Yba.underlying5 (hval 2 5 v2 rfl rfl) h2
  obtain ⟨us, rfl, rfl, rfl⟩ := open_bool Yba.underlying4 (hval 3 4 v3 rfl rfl) h3
  obtain ⟨sv, rfl, rfl, rfl⟩ := open_bool Yba.underlying4 (hval 4 4 v4 rfl rfl) h4
  clear hA0 hval0
  have hsel : 0 ≤ sel ∧ sel ≤ 255 := by
    have h := w2
    simp [Lit.wf, IntKind.min, IntKind.max, IntKind.signed, IntKind.bits] at h
    exact ⟨by omega, by omega⟩
  refine (walk a0 b off len0 cap0 x n sel us sv W hml had hx (min_of_wf w1) hm hsel).mono fun e W' ⟨he, bel⟩ => ?_
  subst he
  exact ⟨_, rfl, _, _, _, [], _, [], hW', trodAll_mk1 (shut_bool Yba.underlying4 _), (trodAll_cons_mk (Below.trod laidOut (by kernel_rfl) (of_decide_eq_true (by kernel_rfl)) k0 bel lt0) (trodAll_cons_mk (shut_int Yba.underlying23 w1) (trodAll_cons_mk (shut_int Yba.underlying5 w2) (trodAll_cons_mk (shut_bool Yba.underlying4 _) (trodAll_cons_mk (shut_bool Yba.underlying4 _) trodAll_mk0))))), rfl, bel.frame _, fun h => by cases h⟩

/-- The statement. -/
theorem proved : Rows.LawS1617CLeastSaid :=
  OpenClaim.holds_of_wide 3 Yba.f3 rfl rfl rfl rfl rfl rfl rfl ⟨rfl, rfl, rfl, rfl, rfl⟩ rfl rfl rfl rfl rfl (by kernel_rfl) Yba.func3 (by kernel_rfl)
    (of_decide_eq_true (by kernel_rfl)) (by unfold Func.isWrapper; first | (rw [if_pos (by decide +kernel)]; kernel_rfl) | (rw [if_neg (by decide +kernel)]; exact ⟨rfl, rfl⟩))
    (fun os started H enc _ => lifted os started H enc)
#print axioms proved
end Go.Proofs.Ybulkagls
