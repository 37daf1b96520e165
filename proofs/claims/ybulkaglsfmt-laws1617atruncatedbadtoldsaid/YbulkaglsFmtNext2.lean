/-
  WALKS: (*Scanner).next: strings; the end of a list.
-/
import Derived.Test.YbulkaglsFmtNext
namespace Go.Proofs.YbulkaglsFmt
open Go.RowKit

set_option maxRecDepth 100000 in
set_option maxHeartbeats 4000000 in
/-- A string of one digit's length, in a list or as a dictionary's value. -/
theorem next_str (S Dt n cap p it d : Nat) (b : Bool) (f : Nat → Value) (w : World) (hS : SC w S f) (L : Live f Dt n cap p it (d + 1)) (hSD : Dt ≠ S) (hn : n ≤ 100000) (hcap : n ≤ cap) (hit : 1 ≤ it) (hit' : it ≤ 100000) (hd : d < 32) (hb : f (9 + d * 6) = .bool b) (hbk : b = true → f (9 + d * 6 + 1) = .bool false) (k : Nat) (hk1 : 1 ≤ k) (hk2 : k ≤ 9) (hp : p + 2 + k ≤ n) (hc0 : w.cell? ⟨Dt, p, none⟩ = some (.int .u8 ((48 + k : Nat) : Int))) (he : w.cell? ⟨Dt, p + 1, none⟩ = some (.int .u8 58)) :
    Calls Ybaf.prog 13 #[.pointer (some ⟨S, 0, none⟩)] w fun e w' => e = .returned (.int .i64 1) ∧ Up w S w' (valued (upd (upd (upd (upd f 7 (.int .i64 (it + 1))) 4 (.int .i64 k)) 3 (.slice (some ⟨Dt, p + 2, none⟩) k (cap - (p + 2)))) 1 (.int .i64 ((p + 2 + k : Nat) : Int))) d b) := by
  have c0 : w.cell? ⟨S, 0, none⟩ = some (.slice (some ⟨Dt, 0, none⟩) n cap) := by rw [hS.cell (by decide), L.h0]
  have c1 : w.cell? ⟨S, 1, none⟩ = some (.int .i64 p) := by rw [hS.cell (by decide), L.h1]
  have c2 : w.cell? ⟨S, 2, none⟩ = some .nilIface := by rw [hS.cell (by decide), L.h2]
  have c6 : w.cell? ⟨S, 6, none⟩ = some (.bool false) := by rw [hS.cell (by decide), L.h6]
  have c8 : w.cell? ⟨S, 8, none⟩ = some (.int .i64 0) := by rw [hS.cell (by decide), L.h8]
  have c7 : w.cell? ⟨S, 7, none⟩ = some (.int .i64 it) := by rw [hS.cell (by decide), L.h7]
  have hit0 : ((it : Int) == 0) = false := by simp; omega
  have hit2 : (it : Int) ≤ 100000 := by omega
  have c201 : w.cell? ⟨S, 201, none⟩ = some (.int .i64 ((d : Int) + 1)) := by rw [hS.cell (by decide), L.hd]; rfl
  have cb : w.cell? ⟨S, 9 + d * 6, none⟩ = some (.bool b) := by rw [hS.cell (by omega), hb]
  have ck : w.cell? ⟨S, 9 + d * 6 + 1, none⟩ = some (f (9 + d * 6 + 1)) := hS.cell (by omega)
  have d0 : (0 : Int) ≤ (d : Int) := by omega
  have d1 : (d : Int) < 32 := by omega
  have d9 : ¬ 9 + d * 6 = 1 := by omega
  have d7 : ¬ 9 + d * 6 = 7 := by omega
  have e9 : ¬ 9 + d * 6 + 1 = 1 := by omega
  have e7 : ¬ 9 + d * 6 + 1 = 7 := by omega
  have z : ∀ i, w.frozen? ⟨S, i, none⟩ = false := fun i => hS.frozen i
  have hDS : ¬ Dt = S := hSD
  have i0 : (0 : Int) ≤ (p : Int) := by omega
  have i1 : (p : Int) < (n : Int) := by omega
  have i2 : (n : Int) ≤ 100000 := by omega
  have hpe : ((p : Int) == (n : Int)) = false := by simp; omega
  have U0 : ∀ n1 n2, Up w S (((w.drewN n1).setCell ⟨S, 7, none⟩ (.int .i64 ((it : Int) + 1))).drewN n2) (upd f 7 (.int .i64 ((it : Int) + 1))) := fun n1 n2 => up_drewN (up_set (up_drewN (up_refl hS) n1) 7 _) n2
  have g1 : ¬ 9 + d * 6 = 4 := by omega
  have g2 : ¬ 9 + d * 6 = 1 := by omega
  have g3 : ¬ 9 + d * 6 = 7 := by omega
  have g4 : ¬ 9 + d * 6 = 3 := by omega
  have H0 : Hid (w.cell? ⟨Dt, p, none⟩ = some (.int .u8 ((48 + k : Nat) : Int))) := hc0
  obtain ⟨c, hck⟩ : ∃ c : Int, c = ((48 + k : Nat) : Int) := ⟨_, rfl⟩
  have hc : w.cell? ⟨Dt, p, none⟩ = some (.int .u8 c) := by rw [hck]; exact hc0
  have k1 : 48 ≤ c := by omega
  have k2 : c ≤ 57 := by omega
  have k3 : (c == 105) = false := by simp; omega
  clear hck hc0
  cases b with
  | false =>
    clear hbk
    go_enter Ybaf.func13, Ybaf.ntmps13
    go_wp2_with fail
    go_quiet (fail)
    go_wp2_with fail
    go_quiet (fail)
    go_wp2_with fail
    go_quiet (fail)
    go_wp2_with fail
    go_quiet (fail)
    go_wp2_with fail
    go_quiet (fail)
    go_wp2_with fail
    refine (string_one S Dt n cap p k _ _ (U0 _ _).sc ?_ ?_ hSD hn hcap hk1 hk2 hp ?_ ?_).mono ?_
    · exact L.h0
    · exact L.h1
    · exact far_cell (U0 _ _).gr H0.out hSD
    · exact far_cell (U0 _ _).gr he hSD
    rintro e w1 ⟨rfl, hS1, hg1'⟩
    have U1 := up_trans (U0 _ _) ⟨hS1, hg1'⟩
    clear hS1 hg1'
    go_wp2_with fail
    refine (valueRead_list S d _ _ U1.sc L.hd hd ?_).mono ?_
    · simpa [upd, g1, g2, g3, g4] using hb
    rintro e w2 ⟨rfl, hS2, hg2'⟩
    have U2 := up_trans U1 ⟨hS2, hg2'⟩
    clear hS2 hg2'
    go_wp2_with fail
    go_ret
    exact ⟨rfl, U2⟩
  | true =>
    have hk := hbk rfl
    rw [hk] at ck
    clear hbk
    go_enter Ybaf.func13, Ybaf.ntmps13
    go_wp2_with fail
    go_quiet (fail)
    go_wp2_with fail
    go_quiet (fail)
    go_wp2_with fail
    go_quiet (fail)
    go_wp2_with fail
    go_quiet (fail)
    go_wp2_with fail
    go_quiet (fail)
    go_wp2_with fail
    refine (string_one S Dt n cap p k _ _ (U0 _ _).sc ?_ ?_ hSD hn hcap hk1 hk2 hp ?_ ?_).mono ?_
    · exact L.h0
    · exact L.h1
    · exact far_cell (U0 _ _).gr H0.out hSD
    · exact far_cell (U0 _ _).gr he hSD
    rintro e w1 ⟨rfl, hS1, hg1'⟩
    have U1 := up_trans (U0 _ _) ⟨hS1, hg1'⟩
    clear hS1 hg1'
    go_wp2_with fail
    refine (valueRead_dict S d _ _ U1.sc L.hd hd ?_).mono ?_
    · simpa [upd, g1, g2, g3, g4] using hb
    rintro e w2 ⟨rfl, hS2, hg2'⟩
    have U2 := up_trans U1 ⟨hS2, hg2'⟩
    clear hS2 hg2'
    go_wp2_with fail
    go_ret
    exact ⟨rfl, U2⟩

set_option maxRecDepth 100000 in
set_option maxHeartbeats 4000000 in
/-- The outermost list ends. -/
theorem next_end0 (S Dt n cap p it : Nat) (f : Nat → Value) (w : World) (hS : SC w S f) (L : Live f Dt n cap p it 1) (hSD : Dt ≠ S) (hn : n ≤ 100000) (hit : 1 ≤ it) (hit' : it ≤ 100000) (hb : f (9) = .bool false) (hp : p < n) (hc : w.cell? ⟨Dt, p, none⟩ = some (.int .u8 101)) :
    Calls Ybaf.prog 13 #[.pointer (some ⟨S, 0, none⟩)] w fun e w' => e = .returned (.int .i64 5) ∧ Up w S w' (upd (upd (upd (upd f 7 (.int .i64 (it + 1))) 1 (.int .i64 (p + 1))) 201 (.int .i64 0)) 6 (.bool true)) := by
  have c0 : w.cell? ⟨S, 0, none⟩ = some (.slice (some ⟨Dt, 0, none⟩) n cap) := by rw [hS.cell (by decide), L.h0]
  have c1 : w.cell? ⟨S, 1, none⟩ = some (.int .i64 p) := by rw [hS.cell (by decide), L.h1]
  have c2 : w.cell? ⟨S, 2, none⟩ = some .nilIface := by rw [hS.cell (by decide), L.h2]
  have c6 : w.cell? ⟨S, 6, none⟩ = some (.bool false) := by rw [hS.cell (by decide), L.h6]
  have c8 : w.cell? ⟨S, 8, none⟩ = some (.int .i64 0) := by rw [hS.cell (by decide), L.h8]
  have c7 : w.cell? ⟨S, 7, none⟩ = some (.int .i64 it) := by rw [hS.cell (by decide), L.h7]
  have hit0 : ((it : Int) == 0) = false := by simp; omega
  have hit2 : (it : Int) ≤ 100000 := by omega
  have c201 : w.cell? ⟨S, 201, none⟩ = some (.int .i64 1) := by rw [hS.cell (by decide), L.hd]; rfl
  have cb : w.cell? ⟨S, 9, none⟩ = some (.bool false) := by rw [hS.cell (by omega), hb]
  have ck : w.cell? ⟨S, 10, none⟩ = some (f (10)) := hS.cell (by omega)
  have z : ∀ i, w.frozen? ⟨S, i, none⟩ = false := fun i => hS.frozen i
  have hDS : ¬ Dt = S := hSD
  have i0 : (0 : Int) ≤ (p : Int) := by omega
  have i1 : (p : Int) < (n : Int) := by omega
  have i2 : (n : Int) ≤ 100000 := by omega
  have hpe : ((p : Int) == (n : Int)) = false := by simp; omega
  have U0 : ∀ n1 n2, Up w S (((((w.drewN n1).setCell ⟨S, 7, none⟩ (.int .i64 ((it : Int) + 1))).drewN n2).setCell ⟨S, 1, none⟩ (.int .i64 ((p : Int) + 1))).setCell ⟨S, 201, none⟩ (.int .i64 0)) (upd (upd (upd f 7 (.int .i64 ((it : Int) + 1))) 1 (.int .i64 ((p : Int) + 1))) 201 (.int .i64 0)) := fun n1 n2 => up_set (up_set (up_drewN (up_set (up_drewN (up_refl hS) n1) 7 _) n2) 1 _) 201 _
  go_enter Ybaf.func13, Ybaf.ntmps13
  go_wp2_with fail
  go_quiet (fail)
  go_wp2_with fail
  go_quiet (fail)
  go_wp2_with fail
  go_quiet (fail)
  go_wp2_with fail
  go_quiet (fail)
  go_wp2_with fail
  go_quiet (fail)
  go_wp2_with fail
  refine (valueRead_whole S _ _ (U0 _ _).sc rfl).mono ?_
  rintro e w2 ⟨rfl, hS2, hg2'⟩
  have U2 := up_trans (U0 _ _) ⟨hS2, hg2'⟩
  clear hS2 hg2'
  go_wp2_with fail
  go_ret
  exact ⟨rfl, U2⟩

set_option maxRecDepth 100000 in
set_option maxHeartbeats 4000000 in
/-- An inner list ends. -/
theorem next_end1 (S Dt n cap p it d : Nat) (b : Bool) (f : Nat → Value) (w : World) (hS : SC w S f) (L : Live f Dt n cap p it (d + 1 + 1)) (hSD : Dt ≠ S) (hn : n ≤ 100000) (hit : 1 ≤ it) (hit' : it ≤ 100000) (hd : d + 1 < 32) (hb : f (9 + (d + 1) * 6) = .bool false) (hpb : f (9 + d * 6) = .bool b) (hp : p < n) (hc : w.cell? ⟨Dt, p, none⟩ = some (.int .u8 101)) :
    Calls Ybaf.prog 13 #[.pointer (some ⟨S, 0, none⟩)] w fun e w' => e = .returned (.int .i64 5) ∧ Up w S w' (valued (upd (upd (upd f 7 (.int .i64 (it + 1))) 1 (.int .i64 (p + 1))) 201 (.int .i64 ((d : Int) + 1))) d b) := by
  have c0 : w.cell? ⟨S, 0, none⟩ = some (.slice (some ⟨Dt, 0, none⟩) n cap) := by rw [hS.cell (by decide), L.h0]
  have c1 : w.cell? ⟨S, 1, none⟩ = some (.int .i64 p) := by rw [hS.cell (by decide), L.h1]
  have c2 : w.cell? ⟨S, 2, none⟩ = some .nilIface := by rw [hS.cell (by decide), L.h2]
  have c6 : w.cell? ⟨S, 6, none⟩ = some (.bool false) := by rw [hS.cell (by decide), L.h6]
  have c8 : w.cell? ⟨S, 8, none⟩ = some (.int .i64 0) := by rw [hS.cell (by decide), L.h8]
  have c7 : w.cell? ⟨S, 7, none⟩ = some (.int .i64 it) := by rw [hS.cell (by decide), L.h7]
  have hit0 : ((it : Int) == 0) = false := by simp; omega
  have hit2 : (it : Int) ≤ 100000 := by omega
  have c201 : w.cell? ⟨S, 201, none⟩ = some (.int .i64 ((d : Int) + 1 + 1)) := by rw [hS.cell (by decide), L.hd]; rfl
  have cb : w.cell? ⟨S, 9 + (d + 1) * 6, none⟩ = some (.bool false) := by rw [hS.cell (by omega), hb]
  have ck : w.cell? ⟨S, 9 + (d + 1) * 6 + 1, none⟩ = some (f (9 + (d + 1) * 6 + 1)) := hS.cell (by omega)
  have d0 : (0 : Int) ≤ (d : Int) := by omega
  have d1 : (d : Int) + 1 < 32 := by omega
  have d9 : ¬ 9 + (d + 1) * 6 = 1 := by omega
  have d7 : ¬ 9 + (d + 1) * 6 = 7 := by omega
  have e9 : ¬ 9 + (d + 1) * 6 + 1 = 1 := by omega
  have e7 : ¬ 9 + (d + 1) * 6 + 1 = 7 := by omega
  have z : ∀ i, w.frozen? ⟨S, i, none⟩ = false := fun i => hS.frozen i
  have hDS : ¬ Dt = S := hSD
  have i0 : (0 : Int) ≤ (p : Int) := by omega
  have i1 : (p : Int) < (n : Int) := by omega
  have i2 : (n : Int) ≤ 100000 := by omega
  have hpe : ((p : Int) == (n : Int)) = false := by simp; omega
  have U0 : ∀ n1 n2, Up w S (((((w.drewN n1).setCell ⟨S, 7, none⟩ (.int .i64 ((it : Int) + 1))).drewN n2).setCell ⟨S, 1, none⟩ (.int .i64 ((p : Int) + 1))).setCell ⟨S, 201, none⟩ (.int .i64 ((d : Int) + 1))) (upd (upd (upd f 7 (.int .i64 ((it : Int) + 1))) 1 (.int .i64 ((p : Int) + 1))) 201 (.int .i64 ((d : Int) + 1))) := fun n1 n2 => up_set (up_set (up_drewN (up_set (up_drewN (up_refl hS) n1) 7 _) n2) 1 _) 201 _
  have g1 : ¬ 9 + d * 6 = 201 := by omega
  have g2 : ¬ 9 + d * 6 = 1 := by omega
  have g3 : ¬ 9 + d * 6 = 7 := by omega
  cases b with
  | false =>
    go_enter Ybaf.func13, Ybaf.ntmps13
    go_wp2_with fail
    go_quiet (fail)
    go_wp2_with fail
    go_quiet (fail)
    go_wp2_with fail
    go_quiet (fail)
    go_wp2_with fail
    go_quiet (fail)
    go_wp2_with fail
    go_quiet (fail)
    go_wp2_with fail
    refine (valueRead_list S d _ _ (U0 _ _).sc rfl (by omega) ?_).mono ?_
    · simpa [upd, g1, g2, g3] using hpb
    rintro e w2 ⟨rfl, hS2, hg2'⟩
    have U2 := up_trans (U0 _ _) ⟨hS2, hg2'⟩
    clear hS2 hg2'
    go_wp2_with fail
    go_ret
    exact ⟨rfl, U2⟩
  | true =>
    go_enter Ybaf.func13, Ybaf.ntmps13
    go_wp2_with fail
    go_quiet (fail)
    go_wp2_with fail
    go_quiet (fail)
    go_wp2_with fail
    go_quiet (fail)
    go_wp2_with fail
    go_quiet (fail)
    go_wp2_with fail
    go_quiet (fail)
    go_wp2_with fail
    refine (valueRead_dict S d _ _ (U0 _ _).sc rfl (by omega) ?_).mono ?_
    · simpa [upd, g1, g2, g3] using hpb
    rintro e w2 ⟨rfl, hS2, hg2'⟩
    have U2 := up_trans (U0 _ _) ⟨hS2, hg2'⟩
    clear hS2 hg2'
    go_wp2_with fail
    go_ret
    exact ⟨rfl, U2⟩

end Go.Proofs.YbulkaglsFmt
