/-
  WALKS: (*Scanner).key at a dictionary's end.
-/
import Derived.Test.YbulkaglsFmtKey
namespace Go.Proofs.YbulkaglsFmt
open Go.RowKit Go.Lib

set_option maxRecDepth 100000 in
set_option maxHeartbeats 4000000 in
theorem key_end_1_false (S p fk : Nat) (f : Nat → Value) (w : World) (hS : SC w S f) (h1 : f 1 = .int .i64 p) (hp : p ≤ 100000) (hu : f 17 = .bool false) (hfk : f 18 = .int .i32 fk) (hfk2 : fk ≤ 100000) (hd : f 201 = .int .i64 2) (hpb : f (9 + 0 * 6) = .bool false) :
    Calls Ybaf.prog 15 #[.pointer (some ⟨S, 0, none⟩), .pointer (some ⟨S, 15, none⟩), .int .u8 101] w fun e w' => e = .returned (.int .i64 5) ∧ Up w S w' (valued (upd (upd (upd f 235 (.int .i64 fk)) 1 (.int .i64 ((p : Int) + 1))) 201 (.int .i64 1)) 0 false) := by
  have c1 : w.cell? ⟨S, 1, none⟩ = some (.int .i64 p) := by rw [hS.cell (by decide), h1]
  have cu : w.cell? ⟨S, 17, none⟩ = some (.bool false) := by rw [hS.cell (by decide), hu]
  have cf : w.cell? ⟨S, 18, none⟩ = some (.int .i32 fk) := by rw [hS.cell (by decide), hfk]
  have cd : w.cell? ⟨S, 201, none⟩ = some (.int .i64 2) := by rw [hS.cell (by decide), hd]
  have c235 : w.cell? ⟨S, 235, none⟩ = some (f 235) := hS.cell (by decide)
  have z : ∀ i, w.frozen? ⟨S, i, none⟩ = false := fun i => hS.frozen i
  have i0 : (p : Int) ≤ 100000 := by omega
  have i1 : (fk : Int) ≤ 100000 := by omega
  have i2 : (0 : Int) ≤ (fk : Int) := by omega
  have U0 : Up w S (((w.setCell ⟨S, 235, none⟩ (.int .i64 fk)).setCell ⟨S, 1, none⟩ (.int .i64 ((p : Int) + 1))).setCell ⟨S, 201, none⟩ (.int .i64 1)) (upd (upd (upd f 235 (.int .i64 fk)) 1 (.int .i64 ((p : Int) + 1))) 201 (.int .i64 1)) := up_set (up_set (up_set (up_refl hS) 235 _) 1 _) 201 _
  go_enter Ybaf.func15, Ybaf.ntmps15
  go_wp2_with fail
  refine (valueRead_list S 0 _ _ U0.sc rfl (by decide) hpb).mono ?_
  rintro e w2 ⟨rfl, hS2, hg2'⟩
  have U2 := up_trans U0 ⟨hS2, hg2'⟩
  clear hS2 hg2'
  go_wp2_with fail
  go_ret
  exact ⟨rfl, U2⟩

set_option maxRecDepth 100000 in
set_option maxHeartbeats 4000000 in
theorem key_end_2_false (S p fk : Nat) (f : Nat → Value) (w : World) (hS : SC w S f) (h1 : f 1 = .int .i64 p) (hp : p ≤ 100000) (hu : f 23 = .bool false) (hfk : f 24 = .int .i32 fk) (hfk2 : fk ≤ 100000) (hd : f 201 = .int .i64 3) (hpb : f (9 + 1 * 6) = .bool false) :
    Calls Ybaf.prog 15 #[.pointer (some ⟨S, 0, none⟩), .pointer (some ⟨S, 21, none⟩), .int .u8 101] w fun e w' => e = .returned (.int .i64 5) ∧ Up w S w' (valued (upd (upd (upd f 235 (.int .i64 fk)) 1 (.int .i64 ((p : Int) + 1))) 201 (.int .i64 2)) 1 false) := by
  have c1 : w.cell? ⟨S, 1, none⟩ = some (.int .i64 p) := by rw [hS.cell (by decide), h1]
  have cu : w.cell? ⟨S, 23, none⟩ = some (.bool false) := by rw [hS.cell (by decide), hu]
  have cf : w.cell? ⟨S, 24, none⟩ = some (.int .i32 fk) := by rw [hS.cell (by decide), hfk]
  have cd : w.cell? ⟨S, 201, none⟩ = some (.int .i64 3) := by rw [hS.cell (by decide), hd]
  have c235 : w.cell? ⟨S, 235, none⟩ = some (f 235) := hS.cell (by decide)
  have z : ∀ i, w.frozen? ⟨S, i, none⟩ = false := fun i => hS.frozen i
  have i0 : (p : Int) ≤ 100000 := by omega
  have i1 : (fk : Int) ≤ 100000 := by omega
  have i2 : (0 : Int) ≤ (fk : Int) := by omega
  have U0 : Up w S (((w.setCell ⟨S, 235, none⟩ (.int .i64 fk)).setCell ⟨S, 1, none⟩ (.int .i64 ((p : Int) + 1))).setCell ⟨S, 201, none⟩ (.int .i64 2)) (upd (upd (upd f 235 (.int .i64 fk)) 1 (.int .i64 ((p : Int) + 1))) 201 (.int .i64 2)) := up_set (up_set (up_set (up_refl hS) 235 _) 1 _) 201 _
  go_enter Ybaf.func15, Ybaf.ntmps15
  go_wp2_with fail
  refine (valueRead_list S 1 _ _ U0.sc rfl (by decide) hpb).mono ?_
  rintro e w2 ⟨rfl, hS2, hg2'⟩
  have U2 := up_trans U0 ⟨hS2, hg2'⟩
  clear hS2 hg2'
  go_wp2_with fail
  go_ret
  exact ⟨rfl, U2⟩

set_option maxRecDepth 100000 in
set_option maxHeartbeats 4000000 in
theorem key_end_2_true (S p fk : Nat) (f : Nat → Value) (w : World) (hS : SC w S f) (h1 : f 1 = .int .i64 p) (hp : p ≤ 100000) (hu : f 23 = .bool false) (hfk : f 24 = .int .i32 fk) (hfk2 : fk ≤ 100000) (hd : f 201 = .int .i64 3) (hpb : f (9 + 1 * 6) = .bool true) :
    Calls Ybaf.prog 15 #[.pointer (some ⟨S, 0, none⟩), .pointer (some ⟨S, 21, none⟩), .int .u8 101] w fun e w' => e = .returned (.int .i64 5) ∧ Up w S w' (valued (upd (upd (upd f 235 (.int .i64 fk)) 1 (.int .i64 ((p : Int) + 1))) 201 (.int .i64 2)) 1 true) := by
  have c1 : w.cell? ⟨S, 1, none⟩ = some (.int .i64 p) := by rw [hS.cell (by decide), h1]
  have cu : w.cell? ⟨S, 23, none⟩ = some (.bool false) := by rw [hS.cell (by decide), hu]
  have cf : w.cell? ⟨S, 24, none⟩ = some (.int .i32 fk) := by rw [hS.cell (by decide), hfk]
  have cd : w.cell? ⟨S, 201, none⟩ = some (.int .i64 3) := by rw [hS.cell (by decide), hd]
  have c235 : w.cell? ⟨S, 235, none⟩ = some (f 235) := hS.cell (by decide)
  have z : ∀ i, w.frozen? ⟨S, i, none⟩ = false := fun i => hS.frozen i
  have i0 : (p : Int) ≤ 100000 := by omega
  have i1 : (fk : Int) ≤ 100000 := by omega
  have i2 : (0 : Int) ≤ (fk : Int) := by omega
  have U0 : Up w S (((w.setCell ⟨S, 235, none⟩ (.int .i64 fk)).setCell ⟨S, 1, none⟩ (.int .i64 ((p : Int) + 1))).setCell ⟨S, 201, none⟩ (.int .i64 2)) (upd (upd (upd f 235 (.int .i64 fk)) 1 (.int .i64 ((p : Int) + 1))) 201 (.int .i64 2)) := up_set (up_set (up_set (up_refl hS) 235 _) 1 _) 201 _
  go_enter Ybaf.func15, Ybaf.ntmps15
  go_wp2_with fail
  refine (valueRead_dict S 1 _ _ U0.sc rfl (by decide) hpb).mono ?_
  rintro e w2 ⟨rfl, hS2, hg2'⟩
  have U2 := up_trans U0 ⟨hS2, hg2'⟩
  clear hS2 hg2'
  go_wp2_with fail
  go_ret
  exact ⟨rfl, U2⟩

end Go.Proofs.YbulkaglsFmt
