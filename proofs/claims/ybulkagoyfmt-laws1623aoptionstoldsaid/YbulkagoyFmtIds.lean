/-
  THE WALKS of NewManager and Begin.
-/
import Derived.Test.YbulkagoyFmtCards
import Derived.Test.YbulkagoyFmtLocks
import Derived.Conc.MuLone
import Derived.WalkKit
import Derived.WalkSpells
import Derived.StillTactics
import Derived.Laws.Pointers
import Derived.Deep.RegionHeld3
import Derived.Deep.QuietTactic
import Derived.BigQuiet
import Derived.BigRegion
import Derived.RowKit3
import Derived.WalkSmall
import Derived.WalkLawsBesides
import Derived.Deep.LoopGhost
import Derived.Handy
import Derived.Deep.OwnRows
import Derived.Deep.AppendLies
import Derived.Deep.CutRange
import Derived.LaidEqlPtr
namespace Go.Proofs.YbulkagoyFmt
open Go.RowKit Go.MuLone

theorem below_of_grown {w w1 w2 : World} {B : Nat} (h : Below B w w1) (hB : B ≤ w1.heap.size) {C : Nat} (g : w1.grownBy w2 (some C)) (hC : B ≤ C) : Below B w w2 :=
  h.grown g hB (by intro k hk; cases hk; exact hC)

def mgCells : List Value := [.int .u8 0, .int .i64 0, .int .i64 0, .int .i64 0, .nilFunc, .int .i64 0, .int .i64 0, .int .i32 0, .int .u32 0, .slice none 0 0, .slice none 0 0, .int .i64 0, .int .i64 0, .int .u64 0, .slice none 0 0, .int .i64 0, .int .i64 0, .int .u64 0, .nilIface, .int .u64 0, .int .i64 0, .int .i64 0, .int .i64 0, .int .i64 0, .int .u64 0, .int .u64 0, .pointer none, .slice none 0 0, .slice none 0 0, .int .i64 0, .int .i32 0, .int .u32 0, .int .u64 0, .int .u64 0, .int .u64 0, .int .u64 0, .int .u64 0, .int .u64 0, .int .u64 0, .int .u64 0, .int .u64 0, .int .u64 0, .int .u64 0, .int .i64 0, .int .i64 0, .int .i64 0, .int .i64 0]

/-- The Manager at block B: its lock free, its last id i. -/
def MG (w : World) (B : Nat) (i : Int) : Prop := ∃ f, w.rowIs B 72 47 f ∧ f 7 = .int .i32 0 ∧ f 19 = .int .u64 i

theorem mg_new (w : World) : MG (w.alloc (.cells mgCells.toArray 72)) w.heap.size 0 := by
  refine ⟨fun i => mgCells.getD i undef, ?_, by rfl, by rfl⟩
  have h := World.rowIs_alloc w mgCells.toArray 72 (fun i => mgCells.getD i undef) (fun i hi => by
    have hi' : i < mgCells.length := by simpa using hi
    rw [List.getElem?_toArray, List.getD_eq_getElem?_getD, List.getElem?_eq_getElem hi']; rfl)
  exact h

set_option maxRecDepth 100000 in
theorem newManager (w : World) :
    Calls Ybaf.prog 5 #[.agg #[.int .u8 0, .int .i64 0, .int .i64 0, .int .i64 0, .nilFunc]] w fun e w' => e = .returned (.pointer (some ⟨w.heap.size + 1, 0, none⟩)) ∧ MG w' (w.heap.size + 1) 0 ∧ Below w.heap.size w w' := by
  go_enter Ybaf.func5, Ybaf.ntmps5
  go_wp2_with fail
  go_ret
  refine ⟨rfl, ?_, ?_⟩
  · have h := mg_new (w.alloc (Obj.cells #[Value.int IntKind.u8 0, Value.int IntKind.i64 0, Value.int IntKind.i64 0, Value.int IntKind.i64 0, Value.nilFunc] 31))
    rw [show (w.alloc (Obj.cells #[Value.int IntKind.u8 0, Value.int IntKind.i64 0, Value.int IntKind.i64 0, Value.int IntKind.i64 0, Value.nilFunc] 31)).heap.size = w.heap.size + 1 by simp] at h
    exact h
  · exact ((Below.refl _ _).alloc (Nat.le_refl _) _).alloc (by simp) _

def txCells (B : Nat) (id : Int) (tag : Int) : List Value := [.pointer (some ⟨B, 0, none⟩), .int .u64 id, .int .u8 0, .int .i64 0, .int .u64 tag, .pointer none, .pointer none, .chan none, .int .u8 0, .int .u64 0, .int .i64 0, .pointer none, .int .i64 0, .int .i64 0, .map none, .slice none 0 0, .map none, .int .u64 0, .int .u64 0, .int .i64 0]

/-- The Tx at block T: of the Manager at block B, its id, its tag; all else zero. -/
def TX (w : World) (T B : Nat) (id tag : Int) : Prop := w.rowIs T 48 20 (fun i => (txCells B id tag).getD i undef)

theorem tx_new (w : World) (B : Nat) (id tag : Int) : TX (w.alloc (.cells (txCells B id tag).toArray 48)) w.heap.size B id tag := by
  have h := World.rowIs_alloc w (txCells B id tag).toArray 48 (fun i => (txCells B id tag).getD i undef) (fun i hi => by
    have hi' : i < (txCells B id tag).length := by simpa using hi
    rw [List.getElem?_toArray, List.getD_eq_getElem?_getD, List.getElem?_eq_getElem hi']; rfl)
  exact h

theorem grown_trans {w w1 w2 : World} {row : Option Nat} (h : w.grownBy w1 row) (k : w1.grownBy w2 row) : w.grownBy w2 row :=
  ⟨k.os.trans h.os, k.tape.trans h.tape, k.output.trans h.output, Nat.le_trans h.size k.size, fun i hi hr => (k.block i (Nat.lt_of_lt_of_le hi h.size) hr).trans (h.block i hi hr)⟩
theorem grown_set {w w1 : World} {C : Nat} (h : w.grownBy w1 (some C)) (o : Nat) (u : Value) : w.grownBy (w1.setCell ⟨C, o, none⟩ u) (some C) :=
  grown_trans h ⟨rfl, rfl, rfl, by simp [World.setCell], fun i _ hr => Below.heap_setCell _ _ _ _ (by intro e; exact hr (by rw [e]))⟩
theorem grown_alloc {w w1 : World} {row : Option Nat} (h : w.grownBy w1 row) (o : Obj) : w.grownBy (w1.alloc o) row :=
  grown_trans h (World.grownBy_alloc _ _ _)

theorem begin_mid {w : World} {B : Nat} {i : Int} {f : Nat → Value} (hf : w.rowIs B 72 47 f) :
    ∃ u, u = (((w.setCell ⟨B, 7, none⟩ (.int .i32 1)).setCell ⟨B, 19, none⟩ (.int .u64 (i + 1))).alloc (.cells (txCells B (i + 1) 0).toArray 48)) ∧
      (∃ g, u.rowIs B 72 47 g ∧ g 7 = .int .i32 1 ∧ g 19 = .int .u64 (i + 1)) ∧ TX u w.heap.size B (i + 1) 0 ∧ w.grownBy u (some B) := by
  refine ⟨_, rfl, ⟨_, ((hf.set 7 (.int .i32 1)).set 19 (.int .u64 (i + 1))).alloc _, rfl, rfl⟩, ?_, ?_⟩
  · have h := tx_new ((w.setCell ⟨B, 7, none⟩ (.int .i32 1)).setCell ⟨B, 19, none⟩ (.int .u64 (i + 1))) B (i + 1) 0
    rw [show ((w.setCell ⟨B, 7, none⟩ (.int .i32 1)).setCell ⟨B, 19, none⟩ (.int .u64 (i + 1))).heap.size = w.heap.size by simp [World.setCell]] at h
    exact h
  · exact grown_alloc (grown_set (grown_set (World.grownBy.refl _ _) _ _) _ _) _

set_option maxRecDepth 100000 in
theorem begin_none (B : Nat) (i : Int) (w : World) (hM : MG w B i) (hi : 0 ≤ i) (hi2 : i ≤ 100000) :
    Calls Ybaf.prog 6 #[.pointer (some ⟨B, 0, none⟩), .slice none 0 0] w fun e w' => e = .returned (.pointer (some ⟨w.heap.size, 0, none⟩)) ∧ MG w' B (i + 1) ∧ TX w' w.heap.size B (i + 1) 0 ∧ w.grownBy w' (some B) := by
  obtain ⟨f, hf, f7, f19⟩ := hM
  have hne : w.heap.size ≠ B := by have := hf.lt; omega
  have c7 : w.cell? ⟨B, 7, none⟩ = some (.int .i32 0) := by rw [hf.cell (by decide), f7]
  have c19 : w.cell? ⟨B, 19, none⟩ = some (.int .u64 i) := by rw [hf.cell (by decide), f19]
  have z7 := hf.frozen 7
  have z19 := hf.frozen 19
  obtain ⟨u, hu, ⟨g, hg, g7, g19⟩, hT, hgr⟩ := begin_mid (i := i) hf
  simp only [txCells] at hu
  go_enter Ybaf.func6, Ybaf.ntmps6
  go_wp2_with (go_at_call 8; refine (lock_free Ybaf.muLib ⟨B, 7, none⟩ _ c7 z7).mono ?_; rintro e w' ⟨rfl, rfl⟩)
  rw [← hu]
  clear hu c7 c19 z7 z19 f7 f19 hf
  refine (unlock_held Ybaf.muLib ⟨B, 7, none⟩ u (by rw [hg.cell (by decide), g7]) (hg.frozen 7)).mono ?_
  rintro _ _ ⟨rfl, rfl⟩
  have hM' : MG (u.setCell ⟨B, 7, none⟩ (.int .i32 0)) B (i + 1) := ⟨_, hg.set 7 _, rfl, g19⟩
  have hT' : TX (u.setCell ⟨B, 7, none⟩ (.int .i32 0)) w.heap.size B (i + 1) 0 := World.rowIs.setOther hT hne _
  have hG' := grown_set hgr 7 (.int .i32 0)
  obtain ⟨u', hu'⟩ : ∃ u', u' = u.setCell ⟨B, 7, none⟩ (.int .i32 0) := ⟨_, rfl⟩
  rw [← hu'] at hM' hT' hG' ⊢
  clear hu' hT hgr hg g7 g19
  go_wp2_with fail
  refine wp_loop_rounds 1 ?_
  rw [rounds_succ]
  go_wp2_with fail
  go_ret
  exact ⟨rfl, hM', hT', hG'⟩

theorem run_neq_ptr_same {P : Program} (w : World) {tp te : TypeId} {j : TypeInfo} (a : Addr) (hp : P.underlying tp = some (.pointer te)) (hte : P.info? te = some j) :
    (binOp .neq tp (.pointer (some a)) (.pointer (some a))).run P w = .ok (.bool false) w := by
  have h : ∀ d : Nat, (Op.equalIn (d + 1) tp (.pointer (some a)) (.pointer (some a))).run P w = .ok true w := fun d => by
    simp [Op.equalIn, run_underlying hp, sizeOf, typeInfo, hte, run_sameAddr_same]
  simp only [binOp]
  simp [Op.equal, Op.maxDepth, h 9999]

theorem info72 : (Ybaf.prog.info? 72).isSome = true := by kernel_rfl

theorem tx_cells {w : World} {T B : Nat} {id tag : Int} (h : TX w T B id tag) :
    w.cell? ⟨T, 0, none⟩ = some (.pointer (some ⟨B, 0, none⟩)) ∧ w.cell? ⟨T, 1, none⟩ = some (.int .u64 id) ∧ w.cell? ⟨T, 2, none⟩ = some (.int .u8 0) ∧ w.cell? ⟨T, 3, none⟩ = some (.int .i64 0) ∧ w.cell? ⟨T, 4, none⟩ = some (.int .u64 tag) :=
  ⟨World.rowIs.cell h (by decide), World.rowIs.cell h (by decide), World.rowIs.cell h (by decide), World.rowIs.cell h (by decide), World.rowIs.cell h (by decide)⟩

set_option maxRecDepth 100000 in
theorem ids_walk (n : Nat) (hn : n ≤ 1024) (w : World) :
    Calls Ybaf.prog 3 #[.int .u16 n] w fun e w' => e = .returned (.bool true) ∧ Below w.heap.size w w' := by
  have hn1 : ¬ (1024 : Int) < (n : Int) := by omega
  obtain ⟨j2, hj2⟩ := Option.isSome_iff_exists.1 info72
  have HJ : Hid (Ybaf.prog.info? 72 = some j2) := hj2
  clear hj2
  go_enter Ybaf.func3, Ybaf.ntmps3
  go_wp2_with fail
  refine (newManager w).mono ?_
  rintro _ w1 ⟨rfl, M1, B1⟩
  go_wp2_with fail
  go_loopg [4] n (fun g i wr => ∃ k : Nat, k + g = n ∧ i = .int .i64 k ∧ MG wr (w.heap.size + 1) k ∧ Below w.heap.size w wr)
  case atStart => exact ⟨0, by omega, rfl, M1, B1⟩
  case round =>
    obtain ⟨k, hk, rfl, hM, hB⟩ := hrel
    have HK : Hid (k + gk = n) := hk
    clear hk M1 B1
    by_cases hlt : k < n
    · have hlt' : (k : Int) < (n : Int) := by omega
      go_wp2_with fail
      refine (begin_none (w.heap.size + 1) k wr hM (by omega) (by omega)).mono ?_
      rintro _ w2 ⟨rfl, hM2, hT2, hg2⟩
      obtain ⟨t0, t1, t2, t3, t4⟩ := tx_cells hT2
      have hB2 : Below w.heap.size w w2 := below_of_grown hB hB.size hg2 (by omega)
      clear hM hg2 hT2
      go_wp2_with fail
      rw [run_neq_ptr_same _ _ Ybaf.underlying23 HJ.out]
      go_wp2_with fail
      go_roundg (gk - 1)
      case rel => exact ⟨k + 1, by have := HK.out; omega, by go_num, by exact_mod_cast hM2, hB2⟩
      case measure => have := HK.out; omega
    · have hkn : k = n := by have := HK.out; omega
      subst hkn
      obtain ⟨f, hf, f7, f19⟩ := hM
      have c19 : wr.cell? ⟨w.heap.size + 1, 19, none⟩ = some (.int .u64 k) := by rw [hf.cell (by decide), f19]
      have hz : ¬ (k : Int) < (k : Int) := by omega
      go_wp2_with fail
      go_ret
      exact ⟨rfl, hB⟩

set_option maxRecDepth 100000 in
theorem ids_big (n : Nat) (hn : 1024 < n) (w : World) :
    Calls Ybaf.prog 3 #[.int .u16 n] w fun e w' => e = .returned (.bool true) ∧ Below w.heap.size w w' := by
  have hn1 : (1024 : Int) < (n : Int) := by omega
  go_enter Ybaf.func3, Ybaf.ntmps3
  go_wp2_with fail
  go_ret
  exact ⟨rfl, Below.refl _ _⟩

end Go.Proofs.YbulkagoyFmt
