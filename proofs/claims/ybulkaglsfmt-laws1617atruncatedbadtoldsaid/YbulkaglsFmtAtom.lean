/-
  THE WALK of LawS1617AAtomNoop.
-/
import Derived.Test.YbulkaglsFmtScan
import Derived.Test.YbulkaglsFmtNext2
import Derived.Test.YbulkaglsFmtVal
namespace Go.Proofs.YbulkaglsFmt
open Go.RowKit

/-- The zero Scanner's cells. -/
def scanCells : List Value :=
  [.slice none 0 0, .int .i64 0, .nilIface, .slice none 0 0, .int .i64 0, .int .i64 0, .bool false, .int .i64 0, .int .i64 0] ++ (List.replicate 32 [.bool false, .bool false, .bool false, .int .i32 0, .int .i32 0, .int .i32 0]).flatten
    ++ [.int .i64 0] ++ List.replicate 32 (.int .i32 0) ++ [.slice none 0 0, .int .i64 0]
def scanBlock : Obj := .cells scanCells.toArray 35

theorem run_alloc35 (w : World) : (Instr.alloc 35 true (.tuple #[])).run Ybaf.prog w = .ok (.pointer (some ⟨w.heap.size, 0, none⟩)) (w.alloc scanBlock) := by kernel_rfl

theorem wp_alloc35 (d : Option Tmp) (t : TypeId) (pos : String) (af : Array Edge) (g : Option (Nat × Bool)) (a : Act) (w : World) (K : Act → World → Prop) (Q : Exit → Act → World → Prop) :
    Oper.wp Ybaf.prog { dst := d, op := .alloc 35, type := t, pos := pos, after := af, guard := g } a w K Q = K (a.put d (.pointer (some ⟨w.heap.size, 0, none⟩))) (w.alloc scanBlock) := by
  unfold Oper.wp execOp
  simp only [Sem.run_bind, run_alloc35, Result.andThen_ok, Sem.run_pure, Oper.upon_value]
attribute [local go_sem ↓] wp_alloc35

theorem sc_new (w : World) : ∃ f, SC (w.alloc scanBlock) w.heap.size f ∧ f 8 = .int .i64 0 := by
  refine ⟨fun i => scanCells.getD i undef, ?_, by rfl⟩
  have h := World.rowIs_alloc w scanCells.toArray 35 (fun i => scanCells.getD i undef) (fun i hi => by
    have hi' : i < scanCells.length := by simpa using hi
    rw [List.getElem?_toArray, List.getD_eq_getElem?_getD, List.getElem?_eq_getElem hi']; rfl)
  exact h

/-- The bytes L lie in block Dt from its head on. -/
def Bytes (w : World) (Dt : Nat) (L : List Int) : Prop := ∀ j v, L[j]? = some v → w.cell? ⟨Dt, j, none⟩ = some (bv v)

theorem bytes_of_owns {w : World} {base g cap : Nat} {L : List Int} (h : Owns w base (.slice (some ⟨g, 0, none⟩) L.length cap) L) : Bytes w g L := fun j v hj => by
  have hl : j < L.length := (List.getElem?_eq_some_iff.1 hj).1
  rw [World.ownsRow.cellAt h j (by omega), List.getElem?_map, hj]; rfl

theorem Bytes.grown {w w' : World} {Dt S : Nat} {L : List Int} (h : Bytes w Dt L) (hg : w.grownBy w' (some S)) (hne : Dt ≠ S) : Bytes w' Dt L := fun j v hj => far_cell hg (h j v hj) hne

theorem Bytes.alloc {w : World} {Dt : Nat} {L : List Int} (h : Bytes w Dt L) (o : Obj) : Bytes (w.alloc o) Dt L := fun j v hj => by
  have := h j v hj
  rw [World.cell?_alloc_lt w o ⟨Dt, j, none⟩ (World.block_lt_of_cell? w _ this)]; exact this

theorem below_of_grown {w w1 : World} {B : Nat} {row : Option Nat} (hg : w.grownBy w1 row) (hB : B ≤ w.heap.size) (hr : ∀ k, row = some k → B ≤ k) : Below B w w1 :=
  ⟨hg.os, hg.tape, hg.output, hg.size, fun i hi => hg.block i (by omega) (fun e => by have := hr i e.symm; omega)⟩

theorem owns_cap {w : World} {base g cap : Nat} {L : List Int} (h : Owns w base (.slice (some ⟨g, 0, none⟩) L.length cap) L) : L.length ≤ cap := by
  rcases h.2 with ⟨h', _⟩ | ⟨g', cap', cur, h', _, _, hn, _⟩
  · simp at h'
  · simp only [Value.slice.injEq] at h'
    obtain ⟨_, _, rfl⟩ := h'
    exact hn

theorem flip_same {k : FuncId} {args : Array Value} {w : World} {e0 : Ending} (h : Calls Ybaf.prog k args w fun e w' => e = e0 ∧ w' = w) : Calls Ybaf.prog k args w fun e w' => e = e0 ∧ w = w' := h.mono fun _ _ h => ⟨h.1, h.2.symm⟩

set_option maxRecDepth 100000 in
set_option maxHeartbeats 4000000 in
theorem atom_int (x : Int) (w : World) (hx : x % 2 = 0) (hx0 : 0 ≤ x) (hx1 : x ≤ 255) :
    Calls Ybaf.prog 4 #[.int .u8 x] w fun e w' => e = .returned (.bool true) ∧ Below w.heap.size w w' := by
  go_enter Ybaf.func4, Ybaf.ntmps4
  go_wp2_with (at_builtin; refine app_bytes rfl (.tmp 7) (.tmp 8) rfl w.heap.size (.slice none 0 0) [] [108] 1 rfl rfl rfl (by decide) (World.ownsRow_nil _ _ _ _) (Nat.le_refl _) (by decide) (by decide) ?_; intro g1 cap1 w1 o1 r1 a1 b1 l1)
  have HV := val_any w.heap.size (.slice (some ⟨g1, 0, none⟩) 1 cap1) [108] 0 w1 o1 r1.size (by decide) (by decide) (by decide)
  rw [show ([108] ++ valBytes 0 : List Int) = [108, 105, 48, 101] by decide] at HV
  refine HV.mono ?_
  clear HV
  rintro e w2 ⟨g2, cap2, rfl, o2, r2, a2, b2⟩
  have s2 : w.heap.size ≤ w2.heap.size := Nat.le_trans r1.size r2.size
  have B2 : Below w.heap.size w w2 := (below_of_grown r1 (Nat.le_refl _) (by simp [Value.ownBlock])).trans (below_of_grown r2 r1.size (by simp [Value.ownBlock]; omega))
  clear o1 r1 a1 r2 a2
  go_wp2_with (at_builtin; refine app_bytes rfl (.tmp 14) (.tmp 15) rfl w.heap.size (.slice (some ⟨g2, 0, none⟩) 4 cap2) [108, 105, 48, 101] [101] 1 rfl rfl rfl (by decide) o2 s2 (by decide) (by decide) ?_; intro g3 cap3 w3 o3 r3 a3 b3 l3)
  have B3 : Below w.heap.size w w3 := B2.trans (below_of_grown r3 s2 (by simp [Value.ownBlock]; omega))
  have hcap : 5 ≤ cap3 := owns_cap o3
  have y3 : Bytes w3 g3 [108, 105, 48, 101, 101] := bytes_of_owns o3
  have hne : g3 ≠ w3.heap.size := by omega
  have hs3 := B3.size
  clear o2 o3 r3 a3 B2
  obtain ⟨f, hf, hf8⟩ := sc_new w3
  refine (reset_any w3.heap.size f _ hf _ _ _).mono ?_
  rintro e w4 ⟨rfl, U4⟩
  have y4 : Bytes w4 g3 [108, 105, 48, 101, 101] := (y3.alloc _).grown U4.gr hne
  have B4 : Below w.heap.size w w4 := (B3.alloc B3.size _).trans (below_of_grown U4.gr (by simp; omega) (by simp; omega))
  have L4 : Live (reset f (.slice (some ⟨g3, 0, none⟩) 5 cap3)) g3 5 cap3 0 0 0 := ⟨rfl, rfl, rfl, rfl, rfl, hf8, rfl⟩
  obtain ⟨f4, hf4⟩ : ∃ g, g = reset f (.slice (some ⟨g3, 0, none⟩) 5 cap3) := ⟨_, rfl⟩
  have k4 : f4 235 = .int .i64 0 := by rw [hf4]; rfl
  rw [← hf4] at U4 L4
  clear hf4 y3 B3 hf hf8
  have N1 := Next_of w3.heap.size w4 3 _ (next_first w3.heap.size g3 5 cap3 0 f4 w4 U4.sc L4 hne (by decide) (by decide) (y4 0 108 rfl) 0 k4 (by decide) (by decide))
  go_wp2_with fail
  refine N1.mono ?_
  clear N1
  rintro e w5 ⟨rfl, U5⟩
  have y5 : Bytes w5 g3 [108, 105, 48, 101, 101] := y4.grown U5.gr hne
  have B5 : Below w.heap.size w w5 := B4.trans (below_of_grown U5.gr B4.size (by simp; omega))
  have L5 : Live (upd (upd (opened (upd (upd f4 7 (.int .i64 1)) 1 (.int .i64 ((0 : Nat) + 1))) 0 false 0) 201 (.int .i64 1)) 5 (.int .i64 3)) g3 5 cap3 1 1 (0 + 1) := ⟨L4.h0, rfl, L4.h2, L4.h6, rfl, L4.h8, rfl⟩
  obtain ⟨f5, hf5⟩ : ∃ g, g = upd (upd (opened (upd (upd f4 7 (.int .i64 1)) 1 (.int .i64 ((0 : Nat) + 1))) 0 false 0) 201 (.int .i64 1)) 5 (.int .i64 3) := ⟨_, rfl⟩
  have q5 : f5 (9 + 0 * 6) = .bool false := by rw [hf5]; rfl
  rw [← hf5] at U5 L5
  clear hf5 y4 B4 U4 L4 k4
  have N2 := Next_of w3.heap.size w5 2 _ (next_int w3.heap.size g3 5 cap3 1 1 0 false f5 w5 U5.sc L5 hne (by decide) hcap (by decide) (by decide) (by decide) q5 (fun h => by cases h) 48 (by decide) (y5 1 105 rfl) (y5 2 48 rfl) (by decide) (by decide) (y5 3 101 rfl))
  go_wp2_with fail
  refine N2.mono ?_
  clear N2
  rintro e w6 ⟨rfl, U6⟩
  have y6 : Bytes w6 g3 [108, 105, 48, 101, 101] := y5.grown U6.gr hne
  have B6 : Below w.heap.size w w6 := B5.trans (below_of_grown U6.gr B5.size (by simp; omega))
  obtain ⟨f6, hf6⟩ : ∃ g, g = upd (valued (upd (upd (upd f5 7 (.int .i64 ((1 : Nat) + 1))) 1 (.int .i64 ((1 + 3 : Nat) : Int))) 4 (.int .i64 (48 - 48))) 0 false) 5 (.int .i64 2) := ⟨_, rfl⟩
  have U6' : Up w5 w3.heap.size w6 f6 := by rw [hf6]; exact U6
  have L6 : Live f6 g3 5 cap3 4 2 (0 + 1) := by rw [hf6]; exact ⟨L5.h0, rfl, L5.h2, L5.h6, rfl, L5.h8, L5.hd⟩
  have q6 : f6 9 = .bool false := by rw [hf6]; exact q5
  have p6 : f6 5 = .int .i64 2 := by rw [hf6]; rfl
  clear U6 hf6 y5 B5 U5 L5 q5
  have e1 : w6.cell? ⟨w3.heap.size, 1, none⟩ = some (.int .i64 4) := by rw [U6'.sc.cell (by decide), L6.h1]; rfl
  have e5 : w6.cell? ⟨w3.heap.size, 5, none⟩ = some (.int .i64 2) := by rw [U6'.sc.cell (by decide), p6]
  have e201 : w6.cell? ⟨w3.heap.size, 201, none⟩ = some (.int .i64 1) := by rw [U6'.sc.cell (by decide), L6.hd]; rfl
  have OF := flip_same (offset_any w3.heap.size f6 w6 U6'.sc)
  rw [L6.h1] at OF
  have ER := flip_same (err_any w3.heap.size f6 w6 U6'.sc)
  rw [L6.h2] at ER
  have SK := flip_same (skip_noop w3.heap.size f6 w6 U6'.sc 2 p6 (by decide) (by decide))
  go_wp2_with (first | (go_at_call 11; refine OF.mono ?_; rintro e w' ⟨rfl, rfl⟩) | (go_at_call 9; refine SK.mono ?_; rintro e w' ⟨rfl, rfl⟩) | (go_at_call 10; refine ER.mono ?_; rintro e w' ⟨rfl, rfl⟩))
  clear OF ER SK e1 e5 e201
  have N3 := Next_of w3.heap.size w6 5 _ (next_end0 w3.heap.size g3 5 cap3 4 2 f6 w6 U6'.sc L6 hne (by decide) (by decide) (by decide) q6 (by decide) (y6 4 101 rfl))
  refine N3.mono ?_
  clear N3
  rintro e w7 ⟨rfl, U7⟩
  have B7 : Below w.heap.size w w7 := B6.trans (below_of_grown U7.gr B6.size (by simp; omega))
  obtain ⟨f7, hf7⟩ : ∃ g, g = upd (upd (upd (upd (upd f6 7 (.int .i64 ((2 : Nat) + 1))) 1 (.int .i64 ((4 : Nat) + 1))) 201 (.int .i64 0)) 6 (.bool true)) 5 (.int .i64 5) := ⟨_, rfl⟩
  have U7' : Up w6 w3.heap.size w7 f7 := by rw [hf7]; exact U7
  have p7 : f7 5 = .int .i64 5 := by rw [hf7]; rfl
  have o7 : f7 1 = .int .i64 5 := by rw [hf7]; rfl
  have n7 : f7 2 = .nilIface := by rw [hf7]; exact L6.h2
  clear U7 hf7 y6 B6 U6' L6 q6 p6
  have e5 : w7.cell? ⟨w3.heap.size, 5, none⟩ = some (.int .i64 5) := by rw [U7'.sc.cell (by decide), p7]
  have OF := flip_same (offset_any w3.heap.size f7 w7 U7'.sc)
  rw [o7] at OF
  have ER := flip_same (err_any w3.heap.size f7 w7 U7'.sc)
  rw [n7] at ER
  have SK := flip_same (skip_noop w3.heap.size f7 w7 U7'.sc 5 p7 (by decide) (by decide))
  go_wp2_with (first | (go_at_call 11; refine OF.mono ?_; rintro e w' ⟨rfl, rfl⟩) | (go_at_call 9; refine SK.mono ?_; rintro e w' ⟨rfl, rfl⟩) | (go_at_call 10; refine ER.mono ?_; rintro e w' ⟨rfl, rfl⟩))
  go_ret
  exact ⟨rfl, B7⟩

set_option maxRecDepth 100000 in
set_option maxHeartbeats 4000000 in
theorem atom_str (x : Int) (w : World) (hx : x % 2 = 1) (hx0 : 0 ≤ x) (hx1 : x ≤ 255) :
    Calls Ybaf.prog 4 #[.int .u8 x] w fun e w' => e = .returned (.bool true) ∧ Below w.heap.size w w' := by
  go_enter Ybaf.func4, Ybaf.ntmps4
  go_wp2_with (at_builtin; refine app_bytes rfl (.tmp 7) (.tmp 8) rfl w.heap.size (.slice none 0 0) [] [108] 1 rfl rfl rfl (by decide) (World.ownsRow_nil _ _ _ _) (Nat.le_refl _) (by decide) (by decide) ?_; intro g1 cap1 w1 o1 r1 a1 b1 l1)
  have HV := val_any w.heap.size (.slice (some ⟨g1, 0, none⟩) 1 cap1) [108] 1 w1 o1 r1.size (by decide) (by decide) (by decide)
  rw [show ([108] ++ valBytes 1 : List Int) = [108, 49, 58, 120] by decide] at HV
  refine HV.mono ?_
  clear HV
  rintro e w2 ⟨g2, cap2, rfl, o2, r2, a2, b2⟩
  have s2 : w.heap.size ≤ w2.heap.size := Nat.le_trans r1.size r2.size
  have B2 : Below w.heap.size w w2 := (below_of_grown r1 (Nat.le_refl _) (by simp [Value.ownBlock])).trans (below_of_grown r2 r1.size (by simp [Value.ownBlock]; omega))
  clear o1 r1 a1 r2 a2
  go_wp2_with (at_builtin; refine app_bytes rfl (.tmp 14) (.tmp 15) rfl w.heap.size (.slice (some ⟨g2, 0, none⟩) 4 cap2) [108, 49, 58, 120] [101] 1 rfl rfl rfl (by decide) o2 s2 (by decide) (by decide) ?_; intro g3 cap3 w3 o3 r3 a3 b3 l3)
  have B3 : Below w.heap.size w w3 := B2.trans (below_of_grown r3 s2 (by simp [Value.ownBlock]; omega))
  have hcap : 5 ≤ cap3 := owns_cap o3
  have y3 : Bytes w3 g3 [108, 49, 58, 120, 101] := bytes_of_owns o3
  have hne : g3 ≠ w3.heap.size := by omega
  have hs3 := B3.size
  clear o2 o3 r3 a3 B2
  obtain ⟨f, hf, hf8⟩ := sc_new w3
  refine (reset_any w3.heap.size f _ hf _ _ _).mono ?_
  rintro e w4 ⟨rfl, U4⟩
  have y4 : Bytes w4 g3 [108, 49, 58, 120, 101] := (y3.alloc _).grown U4.gr hne
  have B4 : Below w.heap.size w w4 := (B3.alloc B3.size _).trans (below_of_grown U4.gr (by simp; omega) (by simp; omega))
  have L4 : Live (reset f (.slice (some ⟨g3, 0, none⟩) 5 cap3)) g3 5 cap3 0 0 0 := ⟨rfl, rfl, rfl, rfl, rfl, hf8, rfl⟩
  obtain ⟨f4, hf4⟩ : ∃ g, g = reset f (.slice (some ⟨g3, 0, none⟩) 5 cap3) := ⟨_, rfl⟩
  have k4 : f4 235 = .int .i64 0 := by rw [hf4]; rfl
  rw [← hf4] at U4 L4
  clear hf4 y3 B3 hf hf8
  have N1 := Next_of w3.heap.size w4 3 _ (next_first w3.heap.size g3 5 cap3 0 f4 w4 U4.sc L4 hne (by decide) (by decide) (y4 0 108 rfl) 0 k4 (by decide) (by decide))
  go_wp2_with fail
  refine N1.mono ?_
  clear N1
  rintro e w5 ⟨rfl, U5⟩
  have y5 : Bytes w5 g3 [108, 49, 58, 120, 101] := y4.grown U5.gr hne
  have B5 : Below w.heap.size w w5 := B4.trans (below_of_grown U5.gr B4.size (by simp; omega))
  have L5 : Live (upd (upd (opened (upd (upd f4 7 (.int .i64 1)) 1 (.int .i64 ((0 : Nat) + 1))) 0 false 0) 201 (.int .i64 1)) 5 (.int .i64 3)) g3 5 cap3 1 1 (0 + 1) := ⟨L4.h0, rfl, L4.h2, L4.h6, rfl, L4.h8, rfl⟩
  obtain ⟨f5, hf5⟩ : ∃ g, g = upd (upd (opened (upd (upd f4 7 (.int .i64 1)) 1 (.int .i64 ((0 : Nat) + 1))) 0 false 0) 201 (.int .i64 1)) 5 (.int .i64 3) := ⟨_, rfl⟩
  have q5 : f5 (9 + 0 * 6) = .bool false := by rw [hf5]; rfl
  rw [← hf5] at U5 L5
  clear hf5 y4 B4 U4 L4 k4
  have N2 := Next_of w3.heap.size w5 1 _ (next_str w3.heap.size g3 5 cap3 1 1 0 false f5 w5 U5.sc L5 hne (by decide) hcap (by decide) (by decide) (by decide) q5 (fun h => by cases h) 1 (by decide) (by decide) (by decide) (y5 1 49 rfl) (y5 2 58 rfl))
  go_wp2_with fail
  refine N2.mono ?_
  clear N2
  rintro e w6 ⟨rfl, U6⟩
  have y6 : Bytes w6 g3 [108, 49, 58, 120, 101] := y5.grown U6.gr hne
  have B6 : Below w.heap.size w w6 := B5.trans (below_of_grown U6.gr B5.size (by simp; omega))
  obtain ⟨f6, hf6⟩ : ∃ g, g = upd (valued (upd (upd (upd (upd f5 7 (.int .i64 ((1 : Nat) + 1))) 4 (.int .i64 (1 : Nat))) 3 (.slice (some ⟨g3, 1 + 2, none⟩) 1 (cap3 - (1 + 2)))) 1 (.int .i64 ((1 + 2 + 1 : Nat) : Int))) 0 false) 5 (.int .i64 1) := ⟨_, rfl⟩
  have U6' : Up w5 w3.heap.size w6 f6 := by rw [hf6]; exact U6
  have L6 : Live f6 g3 5 cap3 4 2 (0 + 1) := by rw [hf6]; exact ⟨L5.h0, rfl, L5.h2, L5.h6, rfl, L5.h8, L5.hd⟩
  have q6 : f6 9 = .bool false := by rw [hf6]; exact q5
  have p6 : f6 5 = .int .i64 1 := by rw [hf6]; rfl
  clear U6 hf6 y5 B5 U5 L5 q5
  have e1 : w6.cell? ⟨w3.heap.size, 1, none⟩ = some (.int .i64 4) := by rw [U6'.sc.cell (by decide), L6.h1]; rfl
  have e5 : w6.cell? ⟨w3.heap.size, 5, none⟩ = some (.int .i64 1) := by rw [U6'.sc.cell (by decide), p6]
  have e201 : w6.cell? ⟨w3.heap.size, 201, none⟩ = some (.int .i64 1) := by rw [U6'.sc.cell (by decide), L6.hd]; rfl
  have OF := flip_same (offset_any w3.heap.size f6 w6 U6'.sc)
  rw [L6.h1] at OF
  have ER := flip_same (err_any w3.heap.size f6 w6 U6'.sc)
  rw [L6.h2] at ER
  have SK := flip_same (skip_noop w3.heap.size f6 w6 U6'.sc 1 p6 (by decide) (by decide))
  go_wp2_with (first | (go_at_call 11; refine OF.mono ?_; rintro e w' ⟨rfl, rfl⟩) | (go_at_call 9; refine SK.mono ?_; rintro e w' ⟨rfl, rfl⟩) | (go_at_call 10; refine ER.mono ?_; rintro e w' ⟨rfl, rfl⟩))
  clear OF ER SK e1 e5 e201
  have N3 := Next_of w3.heap.size w6 5 _ (next_end0 w3.heap.size g3 5 cap3 4 2 f6 w6 U6'.sc L6 hne (by decide) (by decide) (by decide) q6 (by decide) (y6 4 101 rfl))
  refine N3.mono ?_
  clear N3
  rintro e w7 ⟨rfl, U7⟩
  have B7 : Below w.heap.size w w7 := B6.trans (below_of_grown U7.gr B6.size (by simp; omega))
  obtain ⟨f7, hf7⟩ : ∃ g, g = upd (upd (upd (upd (upd f6 7 (.int .i64 ((2 : Nat) + 1))) 1 (.int .i64 ((4 : Nat) + 1))) 201 (.int .i64 0)) 6 (.bool true)) 5 (.int .i64 5) := ⟨_, rfl⟩
  have U7' : Up w6 w3.heap.size w7 f7 := by rw [hf7]; exact U7
  have p7 : f7 5 = .int .i64 5 := by rw [hf7]; rfl
  have o7 : f7 1 = .int .i64 5 := by rw [hf7]; rfl
  have n7 : f7 2 = .nilIface := by rw [hf7]; exact L6.h2
  clear U7 hf7 y6 B6 U6' L6 q6 p6
  have e5 : w7.cell? ⟨w3.heap.size, 5, none⟩ = some (.int .i64 5) := by rw [U7'.sc.cell (by decide), p7]
  have OF := flip_same (offset_any w3.heap.size f7 w7 U7'.sc)
  rw [o7] at OF
  have ER := flip_same (err_any w3.heap.size f7 w7 U7'.sc)
  rw [n7] at ER
  have SK := flip_same (skip_noop w3.heap.size f7 w7 U7'.sc 5 p7 (by decide) (by decide))
  go_wp2_with (first | (go_at_call 11; refine OF.mono ?_; rintro e w' ⟨rfl, rfl⟩) | (go_at_call 9; refine SK.mono ?_; rintro e w' ⟨rfl, rfl⟩) | (go_at_call 10; refine ER.mono ?_; rintro e w' ⟨rfl, rfl⟩))
  go_ret
  exact ⟨rfl, B7⟩

end Go.Proofs.YbulkaglsFmt
