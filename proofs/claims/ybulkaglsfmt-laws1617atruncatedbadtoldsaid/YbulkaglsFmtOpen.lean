/-
  WALKS: (*Scanner).next where a list or dictionary opens inside another.
-/
import Derived.Test.YbulkaglsFmtNext2
namespace Go.Proofs.YbulkaglsFmt
open Go.RowKit

set_option maxRecDepth 100000 in
set_option maxHeartbeats 4000000 in
theorem next_open_0_false_108 (S Dt n cap p it : Nat) (f : Nat → Value) (w : World) (hS : SC w S f) (L : Live f Dt n cap p it 1) (hSD : Dt ≠ S) (hn : n ≤ 100000) (hit : 1 ≤ it) (hit' : it ≤ 100000) (hb : f 9 = .bool false) (hp : p < n) (hc : w.cell? ⟨Dt, p, none⟩ = some (.int .u8 108)) (kl : Int) (hk : f 235 = .int .i64 kl) (hk1 : 0 ≤ kl) (hk2 : kl ≤ 100000) :
    Calls Ybaf.prog 13 #[.pointer (some ⟨S, 0, none⟩)] w fun e w' => e = .returned (.int .i64 3) ∧ Up w S w' (upd (opened (upd (upd f 7 (.int .i64 (it + 1))) 1 (.int .i64 (p + 1))) 1 false kl) 201 (.int .i64 2)) := by
  have c0 : w.cell? ⟨S, 0, none⟩ = some (.slice (some ⟨Dt, 0, none⟩) n cap) := by rw [hS.cell (by decide), L.h0]
  have c1 : w.cell? ⟨S, 1, none⟩ = some (.int .i64 p) := by rw [hS.cell (by decide), L.h1]
  have c2 : w.cell? ⟨S, 2, none⟩ = some .nilIface := by rw [hS.cell (by decide), L.h2]
  have c6 : w.cell? ⟨S, 6, none⟩ = some (.bool false) := by rw [hS.cell (by decide), L.h6]
  have c8 : w.cell? ⟨S, 8, none⟩ = some (.int .i64 0) := by rw [hS.cell (by decide), L.h8]
  have c7 : w.cell? ⟨S, 7, none⟩ = some (.int .i64 it) := by rw [hS.cell (by decide), L.h7]
  have hit0 : ((it : Int) == 0) = false := by simp; omega
  have hit2 : (it : Int) ≤ 100000 := by omega
  have c201 : w.cell? ⟨S, 201, none⟩ = some (.int .i64 1) := by rw [hS.cell (by decide), L.hd]; rfl
  have cb : w.cell? ⟨S, 9, none⟩ = some (.bool false) := by rw [hS.cell (by decide), hb]
  have z : ∀ i, w.frozen? ⟨S, i, none⟩ = false := fun i => hS.frozen i
  have hDS : ¬ Dt = S := hSD
  have i0 : (0 : Int) ≤ (p : Int) := by omega
  have i1 : (p : Int) < (n : Int) := by omega
  have i2 : (n : Int) ≤ 100000 := by omega
  have hpe : ((p : Int) == (n : Int)) = false := by simp; omega
  have c235 : w.cell? ⟨S, 235, none⟩ = some (.int .i64 kl) := by rw [hS.cell (by decide), hk]
  have c15 : w.cell? ⟨S, 15, none⟩ = some (f 15) := hS.cell (by decide)
  have c16 : w.cell? ⟨S, 16, none⟩ = some (f 16) := hS.cell (by decide)
  have c17 : w.cell? ⟨S, 17, none⟩ = some (f 17) := hS.cell (by decide)
  have c18 : w.cell? ⟨S, 18, none⟩ = some (f 18) := hS.cell (by decide)
  have c19 : w.cell? ⟨S, 19, none⟩ = some (f 19) := hS.cell (by decide)
  have c20 : w.cell? ⟨S, 20, none⟩ = some (f 20) := hS.cell (by decide)
  clear L hk
  go_enter Ybaf.func13, Ybaf.ntmps13
  go_wp2_with fail
  go_quiet (fail)
  go_wp2_with fail
  go_quiet (fail)
  go_wp2_with fail
  go_quiet (fail)
  go_wp2_with fail
  go_quiet (fail)
  go_wp2_with fail
  go_quiet (fail)
  go_wp2_with fail
  go_region
  all_goals go_wp2_with fail
  go_ret
  exact ⟨rfl, up_drew (up_set (up_set (up_set (up_set (up_set (up_set (up_set (up_set (up_drewN (up_set (up_drewN (up_refl hS) _) 7 _) _) 1 _) 15 _) 16 _) 17 _) 18 _) 19 _) 20 _) 201 _)⟩

set_option maxRecDepth 100000 in
set_option maxHeartbeats 4000000 in
theorem next_open_0_false_100 (S Dt n cap p it : Nat) (f : Nat → Value) (w : World) (hS : SC w S f) (L : Live f Dt n cap p it 1) (hSD : Dt ≠ S) (hn : n ≤ 100000) (hit : 1 ≤ it) (hit' : it ≤ 100000) (hb : f 9 = .bool false) (hp : p < n) (hc : w.cell? ⟨Dt, p, none⟩ = some (.int .u8 100)) (kl : Int) (hk : f 235 = .int .i64 kl) (hk1 : 0 ≤ kl) (hk2 : kl ≤ 100000) :
    Calls Ybaf.prog 13 #[.pointer (some ⟨S, 0, none⟩)] w fun e w' => e = .returned (.int .i64 4) ∧ Up w S w' (upd (opened (upd (upd f 7 (.int .i64 (it + 1))) 1 (.int .i64 (p + 1))) 1 true kl) 201 (.int .i64 2)) := by
  have c0 : w.cell? ⟨S, 0, none⟩ = some (.slice (some ⟨Dt, 0, none⟩) n cap) := by rw [hS.cell (by decide), L.h0]
  have c1 : w.cell? ⟨S, 1, none⟩ = some (.int .i64 p) := by rw [hS.cell (by decide), L.h1]
  have c2 : w.cell? ⟨S, 2, none⟩ = some .nilIface := by rw [hS.cell (by decide), L.h2]
  have c6 : w.cell? ⟨S, 6, none⟩ = some (.bool false) := by rw [hS.cell (by decide), L.h6]
  have c8 : w.cell? ⟨S, 8, none⟩ = some (.int .i64 0) := by rw [hS.cell (by decide), L.h8]
  have c7 : w.cell? ⟨S, 7, none⟩ = some (.int .i64 it) := by rw [hS.cell (by decide), L.h7]
  have hit0 : ((it : Int) == 0) = false := by simp; omega
  have hit2 : (it : Int) ≤ 100000 := by omega
  have c201 : w.cell? ⟨S, 201, none⟩ = some (.int .i64 1) := by rw [hS.cell (by decide), L.hd]; rfl
  have cb : w.cell? ⟨S, 9, none⟩ = some (.bool false) := by rw [hS.cell (by decide), hb]
  have z : ∀ i, w.frozen? ⟨S, i, none⟩ = false := fun i => hS.frozen i
  have hDS : ¬ Dt = S := hSD
  have i0 : (0 : Int) ≤ (p : Int) := by omega
  have i1 : (p : Int) < (n : Int) := by omega
  have i2 : (n : Int) ≤ 100000 := by omega
  have hpe : ((p : Int) == (n : Int)) = false := by simp; omega
  have c235 : w.cell? ⟨S, 235, none⟩ = some (.int .i64 kl) := by rw [hS.cell (by decide), hk]
  have c15 : w.cell? ⟨S, 15, none⟩ = some (f 15) := hS.cell (by decide)
  have c16 : w.cell? ⟨S, 16, none⟩ = some (f 16) := hS.cell (by decide)
  have c17 : w.cell? ⟨S, 17, none⟩ = some (f 17) := hS.cell (by decide)
  have c18 : w.cell? ⟨S, 18, none⟩ = some (f 18) := hS.cell (by decide)
  have c19 : w.cell? ⟨S, 19, none⟩ = some (f 19) := hS.cell (by decide)
  have c20 : w.cell? ⟨S, 20, none⟩ = some (f 20) := hS.cell (by decide)
  clear L hk
  go_enter Ybaf.func13, Ybaf.ntmps13
  go_wp2_with fail
  go_quiet (fail)
  go_wp2_with fail
  go_quiet (fail)
  go_wp2_with fail
  go_quiet (fail)
  go_wp2_with fail
  go_quiet (fail)
  go_wp2_with fail
  go_quiet (fail)
  go_wp2_with fail
  go_region
  all_goals go_wp2_with fail
  go_ret
  exact ⟨rfl, up_drew (up_set (up_set (up_set (up_set (up_set (up_set (up_set (up_set (up_drewN (up_set (up_drewN (up_refl hS) _) 7 _) _) 1 _) 15 _) 16 _) 17 _) 18 _) 19 _) 20 _) 201 _)⟩

set_option maxRecDepth 100000 in
set_option maxHeartbeats 4000000 in
theorem next_open_1_false_108 (S Dt n cap p it : Nat) (f : Nat → Value) (w : World) (hS : SC w S f) (L : Live f Dt n cap p it 2) (hSD : Dt ≠ S) (hn : n ≤ 100000) (hit : 1 ≤ it) (hit' : it ≤ 100000) (hb : f 15 = .bool false) (hp : p < n) (hc : w.cell? ⟨Dt, p, none⟩ = some (.int .u8 108)) (kl : Int) (hk : f 235 = .int .i64 kl) (hk1 : 0 ≤ kl) (hk2 : kl ≤ 100000) :
    Calls Ybaf.prog 13 #[.pointer (some ⟨S, 0, none⟩)] w fun e w' => e = .returned (.int .i64 3) ∧ Up w S w' (upd (opened (upd (upd f 7 (.int .i64 (it + 1))) 1 (.int .i64 (p + 1))) 2 false kl) 201 (.int .i64 3)) := by
  have c0 : w.cell? ⟨S, 0, none⟩ = some (.slice (some ⟨Dt, 0, none⟩) n cap) := by rw [hS.cell (by decide), L.h0]
  have c1 : w.cell? ⟨S, 1, none⟩ = some (.int .i64 p) := by rw [hS.cell (by decide), L.h1]
  have c2 : w.cell? ⟨S, 2, none⟩ = some .nilIface := by rw [hS.cell (by decide), L.h2]
  have c6 : w.cell? ⟨S, 6, none⟩ = some (.bool false) := by rw [hS.cell (by decide), L.h6]
  have c8 : w.cell? ⟨S, 8, none⟩ = some (.int .i64 0) := by rw [hS.cell (by decide), L.h8]
  have c7 : w.cell? ⟨S, 7, none⟩ = some (.int .i64 it) := by rw [hS.cell (by decide), L.h7]
  have hit0 : ((it : Int) == 0) = false := by simp; omega
  have hit2 : (it : Int) ≤ 100000 := by omega
  have c201 : w.cell? ⟨S, 201, none⟩ = some (.int .i64 2) := by rw [hS.cell (by decide), L.hd]; rfl
  have cb : w.cell? ⟨S, 15, none⟩ = some (.bool false) := by rw [hS.cell (by decide), hb]
  have z : ∀ i, w.frozen? ⟨S, i, none⟩ = false := fun i => hS.frozen i
  have hDS : ¬ Dt = S := hSD
  have i0 : (0 : Int) ≤ (p : Int) := by omega
  have i1 : (p : Int) < (n : Int) := by omega
  have i2 : (n : Int) ≤ 100000 := by omega
  have hpe : ((p : Int) == (n : Int)) = false := by simp; omega
  have c235 : w.cell? ⟨S, 235, none⟩ = some (.int .i64 kl) := by rw [hS.cell (by decide), hk]
  have c21 : w.cell? ⟨S, 21, none⟩ = some (f 21) := hS.cell (by decide)
  have c22 : w.cell? ⟨S, 22, none⟩ = some (f 22) := hS.cell (by decide)
  have c23 : w.cell? ⟨S, 23, none⟩ = some (f 23) := hS.cell (by decide)
  have c24 : w.cell? ⟨S, 24, none⟩ = some (f 24) := hS.cell (by decide)
  have c25 : w.cell? ⟨S, 25, none⟩ = some (f 25) := hS.cell (by decide)
  have c26 : w.cell? ⟨S, 26, none⟩ = some (f 26) := hS.cell (by decide)
  clear L hk
  go_enter Ybaf.func13, Ybaf.ntmps13
  go_wp2_with fail
  go_quiet (fail)
  go_wp2_with fail
  go_quiet (fail)
  go_wp2_with fail
  go_quiet (fail)
  go_wp2_with fail
  go_quiet (fail)
  go_wp2_with fail
  go_quiet (fail)
  go_wp2_with fail
  go_region
  all_goals go_wp2_with fail
  go_ret
  exact ⟨rfl, up_drew (up_set (up_set (up_set (up_set (up_set (up_set (up_set (up_set (up_drewN (up_set (up_drewN (up_refl hS) _) 7 _) _) 1 _) 21 _) 22 _) 23 _) 24 _) 25 _) 26 _) 201 _)⟩

set_option maxRecDepth 100000 in
set_option maxHeartbeats 4000000 in
theorem next_open_1_false_100 (S Dt n cap p it : Nat) (f : Nat → Value) (w : World) (hS : SC w S f) (L : Live f Dt n cap p it 2) (hSD : Dt ≠ S) (hn : n ≤ 100000) (hit : 1 ≤ it) (hit' : it ≤ 100000) (hb : f 15 = .bool false) (hp : p < n) (hc : w.cell? ⟨Dt, p, none⟩ = some (.int .u8 100)) (kl : Int) (hk : f 235 = .int .i64 kl) (hk1 : 0 ≤ kl) (hk2 : kl ≤ 100000) :
    Calls Ybaf.prog 13 #[.pointer (some ⟨S, 0, none⟩)] w fun e w' => e = .returned (.int .i64 4) ∧ Up w S w' (upd (opened (upd (upd f 7 (.int .i64 (it + 1))) 1 (.int .i64 (p + 1))) 2 true kl) 201 (.int .i64 3)) := by
  have c0 : w.cell? ⟨S, 0, none⟩ = some (.slice (some ⟨Dt, 0, none⟩) n cap) := by rw [hS.cell (by decide), L.h0]
  have c1 : w.cell? ⟨S, 1, none⟩ = some (.int .i64 p) := by rw [hS.cell (by decide), L.h1]
  have c2 : w.cell? ⟨S, 2, none⟩ = some .nilIface := by rw [hS.cell (by decide), L.h2]
  have c6 : w.cell? ⟨S, 6, none⟩ = some (.bool false) := by rw [hS.cell (by decide), L.h6]
  have c8 : w.cell? ⟨S, 8, none⟩ = some (.int .i64 0) := by rw [hS.cell (by decide), L.h8]
  have c7 : w.cell? ⟨S, 7, none⟩ = some (.int .i64 it) := by rw [hS.cell (by decide), L.h7]
  have hit0 : ((it : Int) == 0) = false := by simp; omega
  have hit2 : (it : Int) ≤ 100000 := by omega
  have c201 : w.cell? ⟨S, 201, none⟩ = some (.int .i64 2) := by rw [hS.cell (by decide), L.hd]; rfl
  have cb : w.cell? ⟨S, 15, none⟩ = some (.bool false) := by rw [hS.cell (by decide), hb]
  have z : ∀ i, w.frozen? ⟨S, i, none⟩ = false := fun i => hS.frozen i
  have hDS : ¬ Dt = S := hSD
  have i0 : (0 : Int) ≤ (p : Int) := by omega
  have i1 : (p : Int) < (n : Int) := by omega
  have i2 : (n : Int) ≤ 100000 := by omega
  have hpe : ((p : Int) == (n : Int)) = false := by simp; omega
  have c235 : w.cell? ⟨S, 235, none⟩ = some (.int .i64 kl) := by rw [hS.cell (by decide), hk]
  have c21 : w.cell? ⟨S, 21, none⟩ = some (f 21) := hS.cell (by decide)
  have c22 : w.cell? ⟨S, 22, none⟩ = some (f 22) := hS.cell (by decide)
  have c23 : w.cell? ⟨S, 23, none⟩ = some (f 23) := hS.cell (by decide)
  have c24 : w.cell? ⟨S, 24, none⟩ = some (f 24) := hS.cell (by decide)
  have c25 : w.cell? ⟨S, 25, none⟩ = some (f 25) := hS.cell (by decide)
  have c26 : w.cell? ⟨S, 26, none⟩ = some (f 26) := hS.cell (by decide)
  clear L hk
  go_enter Ybaf.func13, Ybaf.ntmps13
  go_wp2_with fail
  go_quiet (fail)
  go_wp2_with fail
  go_quiet (fail)
  go_wp2_with fail
  go_quiet (fail)
  go_wp2_with fail
  go_quiet (fail)
  go_wp2_with fail
  go_quiet (fail)
  go_wp2_with fail
  go_region
  all_goals go_wp2_with fail
  go_ret
  exact ⟨rfl, up_drew (up_set (up_set (up_set (up_set (up_set (up_set (up_set (up_set (up_drewN (up_set (up_drewN (up_refl hS) _) 7 _) _) 1 _) 21 _) 22 _) 23 _) 24 _) 25 _) 26 _) 201 _)⟩

set_option maxRecDepth 100000 in
set_option maxHeartbeats 4000000 in
theorem next_open_1_true_108 (S Dt n cap p it : Nat) (f : Nat → Value) (w : World) (hS : SC w S f) (L : Live f Dt n cap p it 2) (hSD : Dt ≠ S) (hn : n ≤ 100000) (hit : 1 ≤ it) (hit' : it ≤ 100000) (hb : f 15 = .bool true) (hbk : f 16 = .bool false) (hp : p < n) (hc : w.cell? ⟨Dt, p, none⟩ = some (.int .u8 108)) (kl : Int) (hk : f 235 = .int .i64 kl) (hk1 : 0 ≤ kl) (hk2 : kl ≤ 100000) :
    Calls Ybaf.prog 13 #[.pointer (some ⟨S, 0, none⟩)] w fun e w' => e = .returned (.int .i64 3) ∧ Up w S w' (upd (opened (upd (upd f 7 (.int .i64 (it + 1))) 1 (.int .i64 (p + 1))) 2 false kl) 201 (.int .i64 3)) := by
  have c0 : w.cell? ⟨S, 0, none⟩ = some (.slice (some ⟨Dt, 0, none⟩) n cap) := by rw [hS.cell (by decide), L.h0]
  have c1 : w.cell? ⟨S, 1, none⟩ = some (.int .i64 p) := by rw [hS.cell (by decide), L.h1]
  have c2 : w.cell? ⟨S, 2, none⟩ = some .nilIface := by rw [hS.cell (by decide), L.h2]
  have c6 : w.cell? ⟨S, 6, none⟩ = some (.bool false) := by rw [hS.cell (by decide), L.h6]
  have c8 : w.cell? ⟨S, 8, none⟩ = some (.int .i64 0) := by rw [hS.cell (by decide), L.h8]
  have c7 : w.cell? ⟨S, 7, none⟩ = some (.int .i64 it) := by rw [hS.cell (by decide), L.h7]
  have hit0 : ((it : Int) == 0) = false := by simp; omega
  have hit2 : (it : Int) ≤ 100000 := by omega
  have c201 : w.cell? ⟨S, 201, none⟩ = some (.int .i64 2) := by rw [hS.cell (by decide), L.hd]; rfl
  have cb : w.cell? ⟨S, 15, none⟩ = some (.bool true) := by rw [hS.cell (by decide), hb]
  have ck : w.cell? ⟨S, 16, none⟩ = some (.bool false) := by rw [hS.cell (by decide), hbk]
  have z : ∀ i, w.frozen? ⟨S, i, none⟩ = false := fun i => hS.frozen i
  have hDS : ¬ Dt = S := hSD
  have i0 : (0 : Int) ≤ (p : Int) := by omega
  have i1 : (p : Int) < (n : Int) := by omega
  have i2 : (n : Int) ≤ 100000 := by omega
  have hpe : ((p : Int) == (n : Int)) = false := by simp; omega
  have c235 : w.cell? ⟨S, 235, none⟩ = some (.int .i64 kl) := by rw [hS.cell (by decide), hk]
  have c21 : w.cell? ⟨S, 21, none⟩ = some (f 21) := hS.cell (by decide)
  have c22 : w.cell? ⟨S, 22, none⟩ = some (f 22) := hS.cell (by decide)
  have c23 : w.cell? ⟨S, 23, none⟩ = some (f 23) := hS.cell (by decide)
  have c24 : w.cell? ⟨S, 24, none⟩ = some (f 24) := hS.cell (by decide)
  have c25 : w.cell? ⟨S, 25, none⟩ = some (f 25) := hS.cell (by decide)
  have c26 : w.cell? ⟨S, 26, none⟩ = some (f 26) := hS.cell (by decide)
  clear L hk
  go_enter Ybaf.func13, Ybaf.ntmps13
  go_wp2_with fail
  go_quiet (fail)
  go_wp2_with fail
  go_quiet (fail)
  go_wp2_with fail
  go_quiet (fail)
  go_wp2_with fail
  go_quiet (fail)
  go_wp2_with fail
  go_quiet (fail)
  go_wp2_with fail
  go_region
  all_goals go_wp2_with fail
  go_ret
  exact ⟨rfl, up_drew (up_set (up_set (up_set (up_set (up_set (up_set (up_set (up_set (up_drewN (up_set (up_drewN (up_refl hS) _) 7 _) _) 1 _) 21 _) 22 _) 23 _) 24 _) 25 _) 26 _) 201 _)⟩

set_option maxRecDepth 100000 in
set_option maxHeartbeats 4000000 in
theorem next_open_1_true_100 (S Dt n cap p it : Nat) (f : Nat → Value) (w : World) (hS : SC w S f) (L : Live f Dt n cap p it 2) (hSD : Dt ≠ S) (hn : n ≤ 100000) (hit : 1 ≤ it) (hit' : it ≤ 100000) (hb : f 15 = .bool true) (hbk : f 16 = .bool false) (hp : p < n) (hc : w.cell? ⟨Dt, p, none⟩ = some (.int .u8 100)) (kl : Int) (hk : f 235 = .int .i64 kl) (hk1 : 0 ≤ kl) (hk2 : kl ≤ 100000) :
    Calls Ybaf.prog 13 #[.pointer (some ⟨S, 0, none⟩)] w fun e w' => e = .returned (.int .i64 4) ∧ Up w S w' (upd (opened (upd (upd f 7 (.int .i64 (it + 1))) 1 (.int .i64 (p + 1))) 2 true kl) 201 (.int .i64 3)) := by
  have c0 : w.cell? ⟨S, 0, none⟩ = some (.slice (some ⟨Dt, 0, none⟩) n cap) := by rw [hS.cell (by decide), L.h0]
  have c1 : w.cell? ⟨S, 1, none⟩ = some (.int .i64 p) := by rw [hS.cell (by decide), L.h1]
  have c2 : w.cell? ⟨S, 2, none⟩ = some .nilIface := by rw [hS.cell (by decide), L.h2]
  have c6 : w.cell? ⟨S, 6, none⟩ = some (.bool false) := by rw [hS.cell (by decide), L.h6]
  have c8 : w.cell? ⟨S, 8, none⟩ = some (.int .i64 0) := by rw [hS.cell (by decide), L.h8]
  have c7 : w.cell? ⟨S, 7, none⟩ = some (.int .i64 it) := by rw [hS.cell (by decide), L.h7]
  have hit0 : ((it : Int) == 0) = false := by simp; omega
  have hit2 : (it : Int) ≤ 100000 := by omega
  have c201 : w.cell? ⟨S, 201, none⟩ = some (.int .i64 2) := by rw [hS.cell (by decide), L.hd]; rfl
  have cb : w.cell? ⟨S, 15, none⟩ = some (.bool true) := by rw [hS.cell (by decide), hb]
  have ck : w.cell? ⟨S, 16, none⟩ = some (.bool false) := by rw [hS.cell (by decide), hbk]
  have z : ∀ i, w.frozen? ⟨S, i, none⟩ = false := fun i => hS.frozen i
  have hDS : ¬ Dt = S := hSD
  have i0 : (0 : Int) ≤ (p : Int) := by omega
  have i1 : (p : Int) < (n : Int) := by omega
  have i2 : (n : Int) ≤ 100000 := by omega
  have hpe : ((p : Int) == (n : Int)) = false := by simp; omega
  have c235 : w.cell? ⟨S, 235, none⟩ = some (.int .i64 kl) := by rw [hS.cell (by decide), hk]
  have c21 : w.cell? ⟨S, 21, none⟩ = some (f 21) := hS.cell (by decide)
  have c22 : w.cell? ⟨S, 22, none⟩ = some (f 22) := hS.cell (by decide)
  have c23 : w.cell? ⟨S, 23, none⟩ = some (f 23) := hS.cell (by decide)
  have c24 : w.cell? ⟨S, 24, none⟩ = some (f 24) := hS.cell (by decide)
  have c25 : w.cell? ⟨S, 25, none⟩ = some (f 25) := hS.cell (by decide)
  have c26 : w.cell? ⟨S, 26, none⟩ = some (f 26) := hS.cell (by decide)
  clear L hk
  go_enter Ybaf.func13, Ybaf.ntmps13
  go_wp2_with fail
  go_quiet (fail)
  go_wp2_with fail
  go_quiet (fail)
  go_wp2_with fail
  go_quiet (fail)
  go_wp2_with fail
  go_quiet (fail)
  go_wp2_with fail
  go_quiet (fail)
  go_wp2_with fail
  go_region
  all_goals go_wp2_with fail
  go_ret
  exact ⟨rfl, up_drew (up_set (up_set (up_set (up_set (up_set (up_set (up_set (up_set (up_drewN (up_set (up_drewN (up_refl hS) _) 7 _) _) 1 _) 21 _) 22 _) 23 _) 24 _) 25 _) 26 _) 201 _)⟩

end Go.Proofs.YbulkaglsFmt
