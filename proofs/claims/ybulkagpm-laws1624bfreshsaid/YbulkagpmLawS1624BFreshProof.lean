/-
  THE SHELL OF A PROOF OF 'Rows.LawS1624BFreshSaid' ('example.com/dotwalk/dotwalk/internal/escape.LawS1624BFresh'), WRITTEN BY PROGRAM (proof-skeleton.mjs) off the guide's own print for that function. Not trusted: Lean checks it.
-/
import Derived.Test.YbulkagpmRows
import Derived.WalkKit
import Derived.ProofKit
import Derived.OpenShut
import Derived.ShutString
import Derived.LaidEqlPtr
namespace Go.Proofs.Ybulkagpm
open Go.ChangeShapes Go.WideShapes Go.ChangeAt Go.RowKit
open Go.ChangeMaps (open_string shut_string)
set_option linter.unusedVariables false

theorem own : ownKnob Yba.prog.godebug = none := by kernel_rfl

theorem Yba.size35 : (Yba.prog.info? 35).map (·.size != 0) = some true := by kernel_rfl
theorem Yba.comp22 : (Yba.prog.info? 22).map (·.comparable) = some true := by kernel_rfl
theorem Yba.info25 : (Yba.prog.info? 25).isSome = true := by kernel_rfl

theorem size_alloc (w : World) (o : Obj) : (w.alloc o).heap.size = w.heap.size + 1 := by
  show (w.heap.push o).size = _
  simp
theorem at_new {w : World} {n : Nat} (o : Obj) (h : n = w.heap.size) : (w.alloc o).heap[n]? = some o := by
  subst h
  show (w.heap.push o)[_]? = _
  simp
theorem at_old {w : World} {i : Nat} {x : Obj} (o : Obj) (h : w.heap[i]? = some x) : (w.alloc o).heap[i]? = some x := by
  have hi := (Array.getElem?_eq_some_iff.1 h).1
  show (w.heap.push o)[_]? = _
  rw [Array.getElem?_push, if_neg (by omega), h]

theorem run_neq_iface_ptr_same {P : Program} (w : World) {ti tp te : TypeId} {ms : Array (String × TypeId)} {i j : TypeInfo} (a : Addr)
    (hi : P.underlying ti = some (.interface ms)) (hp : P.underlying tp = some (.pointer te)) (hinfo : P.info? tp = some i) (hcomp : i.comparable = true) (hte : P.info? te = some j) :
    (binOp .neq ti (.iface tp (.pointer (some a))) (.iface tp (.pointer (some a)))).run P w = .ok (.bool false) w := by
  simp only [binOp]
  simp [Op.equal, Op.maxDepth, run_equalIn_iface_ptr_same w 9998 a hi hp hinfo hcomp hte]

/-- 'NewWriter' lays one new Writer: its writer, its kind, all else zero. -/
theorem newWriter (a : Addr) (k : Int) (w : World) :
    Calls Yba.prog 5 #[.iface 22 (.pointer (some a)), .int .u8 k] w fun e w' => e = .returned (.pointer (some { block := w.heap.size, off := 0 })) ∧
      w' = w.alloc (.cells #[.iface 22 (.pointer (some a)), .int .u8 k, .slice none 0 0, .int .u8 0, .int .u8 0, .int .u8 0, .int .u8 0, .int .i64 0, .nilIface] 35) := by
  go_enter Yba.func5, Yba.ntmps5
  go_wp2
  go_end0
  go_wp2
  go_ret
  exact ⟨rfl, rfl⟩

/-! ### STEP 1: THE WALK: the Go text returns true. -/
theorem walk (a0 : Int) (a1 : Int) (w0 : (Lit.int .u8 a0).wf = true) (w1 : (Lit.int .u8 a1).wf = true) (w : World) :
    Calls Yba.prog 4 #[.int .u8 a0, .int .u8 a1] w fun e w' => e = .returned (.bool true) ∧ Grown w w' := by
  obtain ⟨j, hj, hjs⟩ := Option.map_eq_some_iff.1 Yba.size35
  obtain ⟨i, hi, hcmp⟩ := Option.map_eq_some_iff.1 Yba.comp22
  obtain ⟨j2, hj2⟩ := Option.isSome_iff_exists.1 Yba.info25
  have hjs' : j.size ≠ 0 := by simpa using hjs
  go_enter Yba.func4, Yba.ntmps4
  go_wp2_with fail
  refine (newWriter _ a0 _).mono ?_
  rintro _ _ ⟨rfl, rfl⟩
  go_wp2_with fail
  refine (newWriter _ a1 _).mono ?_
  rintro _ _ ⟨rfl, rfl⟩
  go_wp2_with fail
  rw [run_eql_ptr_other _ Yba.underlying28 hj hjs' (by simp) (at_old _ (at_new _ (by simp only [size_alloc]))) (at_new _ (by simp only [size_alloc]))]
  go_wp2_with fail
  rw [run_neq_iface_ptr_same _ _ Yba.underlying27 Yba.underlying22 hi hcmp hj2]
  go_wp2_with fail
  rw [run_neq_iface_ptr_same _ _ Yba.underlying27 Yba.underlying22 hi hcmp hj2]
  go_wp2_with fail
  go_ret
  exact ⟨rfl, by repeat (first | exact Grown.refl _ | apply Grown.drew | apply Grown.alloc)⟩

/-! ### THE ROW's STEP: WRITTEN OUT: LEAVE IT -/
set_option maxRecDepth 100000 in
theorem lifted (os : Os) (started : os.Started) (H : Type) (enc : TypeId × Value → H) :
    ReturnsInHanded {} Yba.checked os 4 .any (Rows.lawS1624BFreshSpec.pre6 enc Yba.prog Yba.f4 Rows.lawS1624BFreshRow.domain false) (Rows.lawS1624BFreshSpec.post enc Yba.prog Yba.f4 false true false false) := by
  refine returnsInHanded_of_change (C := Yba.checked) own started (by kernel_rfl) Yba.func4
    (ChangeSpec.witness6 (enc := enc) (C := Yba.checked) false ⟨#[], #[.int .u8 0, .int .u8 0], []⟩ 8 (by kernel_rfl) (by kernel_rfl) (by kernel_rfl) (by kernel_rfl)) ?_
  intro W base args ds gs before hval0 hW hcnd _
  have hval : ∀ (j : Nat) t v, Yba.f4.params[j]? = some t → args[j]? = some v → Value.okWide Yba.prog W .any base t v := hval0
  have hW' := hW
  obtain ⟨p, q, hA0, hV, rfl, hfz, hnd⟩ := hW
  have hA : DataW.TrodAll enc Yba.prog W 0 (fun _ => true) true Yba.f4.params.toList args.toList ds p := hA0
  rw [Yba.params4] at hA hval
  obtain ⟨v0, vs0, d0, ds0, p0, q0, hargs, rfl, rfl, h0, r0⟩ := trodAll_cons hA
  obtain ⟨v1, vs1, d1, ds1, p1, q1, rfl, rfl, rfl, h1, r1⟩ := trodAll_cons r0
  obtain ⟨rfl, rfl, rfl⟩ := trodAll_nil r1
  obtain rfl : args = #[v0, v1] := by cases args; simp_all
  obtain ⟨rfl, rfl⟩ := trodVars_none hV
  obtain ⟨a0, rfl, rfl, rfl, w0⟩ := open_int Yba.underlying5 (hval 0 5 v0 rfl rfl) h0
  obtain ⟨a1, rfl, rfl, rfl, w1⟩ := open_int Yba.underlying5 (hval 1 5 v1 rfl rfl) h1
  clear hA0 hval0
  simp only [List.append_nil] at hW'
  refine (walk a0 a1 w0 w1 W).mono fun e W' ⟨he, hg⟩ => ?_
  subst he
  exact ⟨_, rfl, post_of_same (pa := []) (pv := []) hW' (fun _ _ _ => (trodAll_cons_mk (shut_bool Yba.underlying4 _) trodAll_mk0)) (fun sp _ => (trodAll_cons_mk (shut_int Yba.underlying5 w0) (trodAll_cons_mk (shut_int Yba.underlying5 w1) trodAll_mk0))) (fun _ _ => rfl) rfl
    (hg.frame _) hg.2.1 (ok_one (by kernel_rfl) rfl (okWide_bool_mk Yba.underlying4 _))⟩

theorem over : Rows.lawS1624BFreshRow.holds Yba.pinned (OpenSpec.ofChange Rows.lawS1624BFreshSpec) :=
  OpenClaim.holds_of_wide 4 Yba.f4 rfl rfl rfl rfl rfl rfl rfl ⟨rfl, rfl, rfl, rfl, rfl⟩ rfl rfl rfl rfl rfl (by kernel_rfl) Yba.func4 (by kernel_rfl)
    (of_decide_eq_true (by kernel_rfl)) (by unfold Func.isWrapper; first | (rw [if_pos (by decide +kernel)]; kernel_rfl) | (rw [if_neg (by decide +kernel)]; exact ⟨rfl, rfl⟩))
    (fun os started H enc _ => lifted os started H enc)

/-- ████ THE STATEMENT ████ -/
theorem proved : Rows.LawS1624BFreshSaid :=
  over
#print axioms proved
end Go.Proofs.Ybulkagpm
