/-
  WALKS: (*Scanner).next where a key is due.
-/
import Derived.Test.YbulkaglsFmtKend
namespace Go.Proofs.YbulkaglsFmt
open Go.RowKit Go.Lib

set_option maxRecDepth 100000 in
set_option maxHeartbeats 4000000 in
/-- Where a key is due: what key does. -/
theorem next_key_1 (S Dt n cap p it : Nat) (c : Int) (f : Nat → Value) (w : World) (R : Int → World → Prop) (hS : SC w S f) (L : Live f Dt n cap p it 2) (hSD : Dt ≠ S) (hn : n ≤ 100000) (hit : 1 ≤ it) (hit' : it ≤ 100000) (hb : f 15 = .bool true) (hbk : f 16 = .bool true) (hp : p < n) (hc : w.cell? ⟨Dt, p, none⟩ = some (.int .u8 c))
    (H : ∀ w1, Up w S w1 (upd f 7 (.int .i64 (it + 1))) → Calls Ybaf.prog 15 #[.pointer (some ⟨S, 0, none⟩), .pointer (some ⟨S, 15, none⟩), .int .u8 c] w1 fun e w' => ∃ K, e = .returned (.int .i64 K) ∧ R K w') :
    Calls Ybaf.prog 13 #[.pointer (some ⟨S, 0, none⟩)] w fun e w' => ∃ K, e = .returned (.int .i64 K) ∧ R K w' := by
  have c0 : w.cell? ⟨S, 0, none⟩ = some (.slice (some ⟨Dt, 0, none⟩) n cap) := by rw [hS.cell (by decide), L.h0]
  have c1 : w.cell? ⟨S, 1, none⟩ = some (.int .i64 p) := by rw [hS.cell (by decide), L.h1]
  have c2 : w.cell? ⟨S, 2, none⟩ = some .nilIface := by rw [hS.cell (by decide), L.h2]
  have c6 : w.cell? ⟨S, 6, none⟩ = some (.bool false) := by rw [hS.cell (by decide), L.h6]
  have c8 : w.cell? ⟨S, 8, none⟩ = some (.int .i64 0) := by rw [hS.cell (by decide), L.h8]
  have c7 : w.cell? ⟨S, 7, none⟩ = some (.int .i64 it) := by rw [hS.cell (by decide), L.h7]
  have hit0 : ((it : Int) == 0) = false := by simp; omega
  have hit2 : (it : Int) ≤ 100000 := by omega
  have c201 : w.cell? ⟨S, 201, none⟩ = some (.int .i64 2) := by rw [hS.cell (by decide), L.hd]; rfl
  have cb : w.cell? ⟨S, 15, none⟩ = some (.bool true) := by rw [hS.cell (by decide), hb]
  have ck : w.cell? ⟨S, 16, none⟩ = some (.bool true) := by rw [hS.cell (by decide), hbk]
  have z : ∀ i, w.frozen? ⟨S, i, none⟩ = false := fun i => hS.frozen i
  have hDS : ¬ Dt = S := hSD
  have i0 : (0 : Int) ≤ (p : Int) := by omega
  have i1 : (p : Int) < (n : Int) := by omega
  have i2 : (n : Int) ≤ 100000 := by omega
  have hpe : ((p : Int) == (n : Int)) = false := by simp; omega
  have HH := hidp H
  clear L H
  go_enter Ybaf.func13, Ybaf.ntmps13
  go_wp2_with fail
  go_quiet (fail)
  go_wp2_with fail
  go_quiet (fail)
  go_wp2_with fail
  go_quiet (fail)
  go_wp2_with fail
  go_quiet (fail)
  go_wp2_with fail
  go_quiet (fail)
  go_wp2_with fail
  refine (HH.out _ (up_drewN (up_set (up_drewN (up_refl hS) _) 7 _) _)).mono ?_
  rintro _ w2 ⟨K, rfl, hR⟩
  go_wp2_with fail
  go_ret
  exact ⟨K, rfl, hR⟩

set_option maxRecDepth 100000 in
set_option maxHeartbeats 4000000 in
/-- Where a key is due: what key does. -/
theorem next_key_2 (S Dt n cap p it : Nat) (c : Int) (f : Nat → Value) (w : World) (R : Int → World → Prop) (hS : SC w S f) (L : Live f Dt n cap p it 3) (hSD : Dt ≠ S) (hn : n ≤ 100000) (hit : 1 ≤ it) (hit' : it ≤ 100000) (hb : f 21 = .bool true) (hbk : f 22 = .bool true) (hp : p < n) (hc : w.cell? ⟨Dt, p, none⟩ = some (.int .u8 c))
    (H : ∀ w1, Up w S w1 (upd f 7 (.int .i64 (it + 1))) → Calls Ybaf.prog 15 #[.pointer (some ⟨S, 0, none⟩), .pointer (some ⟨S, 21, none⟩), .int .u8 c] w1 fun e w' => ∃ K, e = .returned (.int .i64 K) ∧ R K w') :
    Calls Ybaf.prog 13 #[.pointer (some ⟨S, 0, none⟩)] w fun e w' => ∃ K, e = .returned (.int .i64 K) ∧ R K w' := by
  have c0 : w.cell? ⟨S, 0, none⟩ = some (.slice (some ⟨Dt, 0, none⟩) n cap) := by rw [hS.cell (by decide), L.h0]
  have c1 : w.cell? ⟨S, 1, none⟩ = some (.int .i64 p) := by rw [hS.cell (by decide), L.h1]
  have c2 : w.cell? ⟨S, 2, none⟩ = some .nilIface := by rw [hS.cell (by decide), L.h2]
  have c6 : w.cell? ⟨S, 6, none⟩ = some (.bool false) := by rw [hS.cell (by decide), L.h6]
  have c8 : w.cell? ⟨S, 8, none⟩ = some (.int .i64 0) := by rw [hS.cell (by decide), L.h8]
  have c7 : w.cell? ⟨S, 7, none⟩ = some (.int .i64 it) := by rw [hS.cell (by decide), L.h7]
  have hit0 : ((it : Int) == 0) = false := by simp; omega
  have hit2 : (it : Int) ≤ 100000 := by omega
  have c201 : w.cell? ⟨S, 201, none⟩ = some (.int .i64 3) := by rw [hS.cell (by decide), L.hd]; rfl
  have cb : w.cell? ⟨S, 21, none⟩ = some (.bool true) := by rw [hS.cell (by decide), hb]
  have ck : w.cell? ⟨S, 22, none⟩ = some (.bool true) := by rw [hS.cell (by decide), hbk]
  have z : ∀ i, w.frozen? ⟨S, i, none⟩ = false := fun i => hS.frozen i
  have hDS : ¬ Dt = S := hSD
  have i0 : (0 : Int) ≤ (p : Int) := by omega
  have i1 : (p : Int) < (n : Int) := by omega
  have i2 : (n : Int) ≤ 100000 := by omega
  have hpe : ((p : Int) == (n : Int)) = false := by simp; omega
  have HH := hidp H
  clear L H
  go_enter Ybaf.func13, Ybaf.ntmps13
  go_wp2_with fail
  go_quiet (fail)
  go_wp2_with fail
  go_quiet (fail)
  go_wp2_with fail
  go_quiet (fail)
  go_wp2_with fail
  go_quiet (fail)
  go_wp2_with fail
  go_quiet (fail)
  go_wp2_with fail
  refine (HH.out _ (up_drewN (up_set (up_drewN (up_refl hS) _) 7 _) _)).mono ?_
  rintro _ w2 ⟨K, rfl, hR⟩
  go_wp2_with fail
  go_ret
  exact ⟨K, rfl, hR⟩

end Go.Proofs.YbulkaglsFmt
