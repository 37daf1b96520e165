/-
  WALKS: (*Scanner).string, valueRead, Reset, Err, Offset.
-/
import Derived.Test.YbulkaglsFmtBase
namespace Go.Proofs.YbulkaglsFmt
open Go.RowKit

theorem upd_comm (f : Nat → Value) {i j : Nat} (h : i ≠ j) (u v : Value) : upd (upd f i u) j v = upd (upd f j v) i u := by
  funext x; simp only [upd]; split <;> split <;> simp_all

/-- A cell of another block behind writes into block S. -/
theorem far_cell {w w1 : World} {S b o : Nat} {v : Value} (hg : w.grownBy w1 (some S)) (h : w.cell? ⟨b, o, none⟩ = some v) (hne : b ≠ S) : w1.cell? ⟨b, o, none⟩ = some v :=
  hg.cell h (by simpa using hne)

theorem grown_drew {w w1 : World} {row : Option Nat} (h : w.grownBy w1 row) : w.grownBy w1.drew row := grown_trans h ⟨rfl, rfl, rfl, Nat.le_refl _, fun _ _ _ => rfl⟩

theorem string_end {w1 : World} {S Dt cap p k q : Nat} {f : Nat → Value} (hS : SC w1 S (upd (upd f 1 (.int .i64 ((p : Int) + 2))) 4 (.int .i64 (((48 + k : Nat) : Int) - 48)))) (hq : q = p + 2) (m : Nat) :
    SC (((w1.drewN m).setCell ⟨S, 3, none⟩ (.slice (some ⟨Dt, q, none⟩) k (cap - q))).setCell ⟨S, 1, none⟩ (.int .i64 ((q : Int) + k))).drew S
      (upd (upd (upd f 4 (.int .i64 k)) 3 (.slice (some ⟨Dt, p + 2, none⟩) k (cap - (p + 2)))) 1 (.int .i64 ((p + 2 + k : Nat) : Int))) := by
  subst hq
  have h := sc_set (sc_set (sc_drewN hS m) 3 (.slice (some ⟨Dt, p + 2, none⟩) k (cap - (p + 2)))) 1 (.int .i64 (((p + 2 : Nat) : Int) + k))
  refine World.rowIs.congr (w := _) h.drew (fun j _ => ?_)
  simp only [upd]
  by_cases h1 : j = 1
  · simp only [h1, if_true]; exact vint (by omega)
  · by_cases h3 : j = 3
    · simp [h3]
    · by_cases h4 : j = 4
      · simp only [h4]; simp; omega
      · simp [h1, h3, h4]

set_option maxRecDepth 100000 in
set_option maxHeartbeats 1000000 in
/-- (*Scanner).string at a length of one digit. -/
theorem string_one (S Dt n cap p k : Nat) (f : Nat → Value) (w : World) (hS : SC w S f) (h0 : f 0 = .slice (some ⟨Dt, 0, none⟩) n cap) (h1 : f 1 = .int .i64 p) (hSD : Dt ≠ S)
    (hn : n ≤ 100000) (hcap : n ≤ cap) (hk1 : 1 ≤ k) (hk2 : k ≤ 9) (hp : p + 2 + k ≤ n) (hc : w.cell? ⟨Dt, p, none⟩ = some (.int .u8 ((48 + k : Nat) : Int))) (he : w.cell? ⟨Dt, p + 1, none⟩ = some (.int .u8 58)) :
    Calls Ybaf.prog 18 #[.pointer (some ⟨S, 0, none⟩)] w fun e w' => e = .returned (.bool true) ∧
      SC w' S (upd (upd (upd f 4 (.int .i64 k)) 3 (.slice (some ⟨Dt, p + 2, none⟩) k (cap - (p + 2)))) 1 (.int .i64 ((p + 2 + k : Nat) : Int))) ∧ w.grownBy w' (some S) := by
  have HN := number_one S Dt n cap p ((48 + k : Nat) : Int) 58 false f w hS h0 h1 hSD hn hcap (by omega) hc (by omega) (by omega) he (by decide) (by decide)
  go_enter Ybaf.func18, Ybaf.ntmps18
  go_wp2_with fail
  refine HN.mono ?_
  rintro e w1 ⟨rfl, hS1, hg1⟩
  clear HN hc he
  have c0 : w1.cell? ⟨S, 0, none⟩ = some (.slice (some ⟨Dt, 0, none⟩) n cap) := by rw [hS1.cell (by decide), ← h0]; rfl
  obtain ⟨q, hq⟩ : ∃ q, q = p + 2 := ⟨_, rfl⟩
  have c1 : w1.cell? ⟨S, 1, none⟩ = some (.int .i64 (q : Int)) := by
    rw [hS1.cell (by decide)]
    show some (Value.int .i64 ((p : Int) + 2)) = _
    rw [show (p : Int) + 2 = q by omega]
  have c4 : w1.cell? ⟨S, 4, none⟩ = some (.int .i64 (k : Int)) := by
    rw [hS1.cell (by decide)]
    show some (Value.int .i64 (((48 + k : Nat) : Int) - 48)) = _
    rw [show ((48 + k : Nat) : Int) - 48 = k by omega]
  have c3 : w1.cell? ⟨S, 3, none⟩ = some (f 3) := by rw [hS1.cell (by decide)]; rfl
  have z1 := hS1.frozen 1
  have z3 := hS1.frozen 3
  have HQ : Hid (q = p + 2) := hq
  have i0 : (0 : Int) ≤ (q : Int) := by omega
  have i1 : (q : Int) + k ≤ (n : Int) := by omega
  have i2 : (q : Int) + k ≤ (cap : Int) := by omega
  have i6 : (0 : Int) ≤ (q : Int) + k := by omega
  have i3 : (n : Int) ≤ (cap : Int) := by omega
  have i4 : (n : Int) ≤ 100000 := by omega
  have i5 : (k : Int) ≤ 9 := by omega
  have hne : ¬ cap = q := by omega
  have hwr : IntKind.i64.wrap ((q : Int) + k) = (q : Int) + k := by rw [IntKind.wrap_i64]; omega
  clear h0 h1 hS hq
  go_wp2_with fail
  go_quiet (fail)
  go_wp2_with fail
  go_region
  all_goals go_wp2_with fail
  go_region
  all_goals go_wp2_with fail
  go_ret
  exact ⟨rfl, string_end hS1 HQ.out _, grown_drew (grown_set (grown_set (grown_drewN hg1 _) _ _) _ _)⟩

/-- (*Scanner).valueRead: the value was the whole. -/
theorem valueRead_whole (S : Nat) (f : Nat → Value) (w : World) (hS : SC w S f) (hd : f 201 = .int .i64 0) :
    Calls Ybaf.prog 17 #[.pointer (some ⟨S, 0, none⟩)] w fun e w' => e = .returned (.tuple #[]) ∧ SC w' S (upd f 6 (.bool true)) ∧ w.grownBy w' (some S) := by
  have c201 : w.cell? ⟨S, 201, none⟩ = some (.int .i64 0) := by rw [hS.cell (by decide), hd]
  have c6 : w.cell? ⟨S, 6, none⟩ = some (f 6) := hS.cell (by decide)
  have z6 := hS.frozen 6
  go_enter Ybaf.func17, Ybaf.ntmps17
  go_wp2_with fail
  go_end0
  exact ⟨rfl, sc_set hS _ _, grown_set (World.grownBy.refl _ _) _ _⟩

/-- .. in a list. -/
theorem valueRead_list (S d : Nat) (f : Nat → Value) (w : World) (hS : SC w S f) (hd : f 201 = .int .i64 ((d : Int) + 1)) (hd2 : d < 32) (hl : f (9 + d * 6) = .bool false) :
    Calls Ybaf.prog 17 #[.pointer (some ⟨S, 0, none⟩)] w fun e w' => e = .returned (.tuple #[]) ∧ SC w' S f ∧ w.grownBy w' (some S) := by
  have c201 : w.cell? ⟨S, 201, none⟩ = some (.int .i64 ((d : Int) + 1)) := by rw [hS.cell (by decide), hd]
  have cl : w.cell? ⟨S, 9 + d * 6, none⟩ = some (.bool false) := by rw [hS.cell (by omega), hl]
  have i0 : (0 : Int) ≤ (d : Int) := by omega
  have i1 : (d : Int) < 32 := by omega
  go_enter Ybaf.func17, Ybaf.ntmps17
  go_wp2_with fail
  go_quiet (fail)
  go_wp2_with fail
  go_end0
  exact ⟨rfl, sc_drewN hS _, grown_drewN (World.grownBy.refl _ _) _⟩

/-- .. in a dictionary. -/
theorem valueRead_dict (S d : Nat) (f : Nat → Value) (w : World) (hS : SC w S f) (hd : f 201 = .int .i64 ((d : Int) + 1)) (hd2 : d < 32) (hl : f (9 + d * 6) = .bool true) :
    Calls Ybaf.prog 17 #[.pointer (some ⟨S, 0, none⟩)] w fun e w' => e = .returned (.tuple #[]) ∧ SC w' S (upd f (9 + d * 6 + 1) (.bool true)) ∧ w.grownBy w' (some S) := by
  have c201 : w.cell? ⟨S, 201, none⟩ = some (.int .i64 ((d : Int) + 1)) := by rw [hS.cell (by decide), hd]
  have cl : w.cell? ⟨S, 9 + d * 6, none⟩ = some (.bool true) := by rw [hS.cell (by omega), hl]
  have ck : w.cell? ⟨S, 9 + d * 6 + 1, none⟩ = some (f (9 + d * 6 + 1)) := hS.cell (by omega)
  have zk := hS.frozen (9 + d * 6 + 1)
  have i0 : (0 : Int) ≤ (d : Int) := by omega
  have i1 : (d : Int) < 32 := by omega
  go_enter Ybaf.func17, Ybaf.ntmps17
  go_wp2_with fail
  go_quiet (fail)
  go_wp2_with fail
  go_end0
  exact ⟨rfl, sc_set (sc_drewN hS _) _ _, grown_set (grown_drewN (World.grownBy.refl _ _) _) _ _⟩

theorem err_any (S : Nat) (f : Nat → Value) (w : World) (hS : SC w S f) :
    Calls Ybaf.prog 10 #[.pointer (some ⟨S, 0, none⟩)] w fun e w' => e = .returned (f 2) ∧ w' = w := by
  have c2 : w.cell? ⟨S, 2, none⟩ = some (f 2) := hS.cell (by decide)
  go_enter Ybaf.func10, Ybaf.ntmps10
  go_wp2_with fail
  go_ret
  exact ⟨rfl, rfl⟩

theorem offset_any (S : Nat) (f : Nat → Value) (w : World) (hS : SC w S f) :
    Calls Ybaf.prog 11 #[.pointer (some ⟨S, 0, none⟩)] w fun e w' => e = .returned (f 1) ∧ w' = w := by
  have c1 : w.cell? ⟨S, 1, none⟩ = some (f 1) := hS.cell (by decide)
  go_enter Ybaf.func11, Ybaf.ntmps11
  go_wp2_with fail
  go_ret
  exact ⟨rfl, rfl⟩

end Go.Proofs.YbulkaglsFmt
