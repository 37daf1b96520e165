/-
  WALKS: (*Scanner).next, a theorem a kind of item.
-/
import Derived.Test.YbulkaglsFmtStr
namespace Go.Proofs.YbulkaglsFmt
open Go.RowKit

/-- A Scanner that goes on: no error, not whole, no bound on items. -/
structure Live (f : Nat → Value) (Dt n cap p it d : Nat) : Prop where
  h0 : f 0 = .slice (some ⟨Dt, 0, none⟩) n cap
  h1 : f 1 = .int .i64 p
  h2 : f 2 = .nilIface
  h6 : f 6 = .bool false
  h7 : f 7 = .int .i64 it
  h8 : f 8 = .int .i64 0
  hd : f 201 = .int .i64 d

/-- The frame that a list or dictionary opens at depth d. -/
def opened (f : Nat → Value) (d : Nat) (dict : Bool) (kl : Int) : Nat → Value :=
  upd (upd (upd (upd (upd (upd f (9 + d * 6) (.bool dict)) (9 + d * 6 + 1) (.bool dict)) (9 + d * 6 + 2) (.bool false)) (9 + d * 6 + 3) (.int .i32 kl)) (9 + d * 6 + 4) (.int .i32 (-1))) (9 + d * 6 + 5) (.int .i32 0)

/-- w' is w but for the Scanner, which reads f now. -/
structure Up (w : World) (S : Nat) (w' : World) (f : Nat → Value) : Prop where
  sc : SC w' S f
  gr : w.grownBy w' (some S)

theorem up_refl {w : World} {S : Nat} {f : Nat → Value} (h : SC w S f) : Up w S w f := ⟨h, World.grownBy.refl _ _⟩
theorem up_set {w w' : World} {S : Nat} {f : Nat → Value} (h : Up w S w' f) (i : Nat) (v : Value) : Up w S (w'.setCell ⟨S, i, none⟩ v) (upd f i v) := ⟨sc_set h.sc i v, grown_set h.gr i v⟩
theorem up_drewN {w w' : World} {S : Nat} {f : Nat → Value} (h : Up w S w' f) (k : Nat) : Up w S (w'.drewN k) f := ⟨sc_drewN h.sc k, grown_drewN h.gr k⟩
theorem up_drew {w w' : World} {S : Nat} {f : Nat → Value} (h : Up w S w' f) : Up w S w'.drew f := ⟨h.sc.drew, grown_drew h.gr⟩
theorem up_trans {w w1 w2 : World} {S : Nat} {f g : Nat → Value} (h : Up w S w1 f) (k : Up w1 S w2 g) : Up w S w2 g := ⟨k.sc, grown_trans h.gr k.gr⟩
theorem up_of {w w1 : World} {S : Nat} {f : Nat → Value} (h : SC w1 S f ∧ w.grownBy w1 (some S)) : Up w S w1 f := ⟨h.1, h.2⟩
theorem up_congr {w w' : World} {S : Nat} {f g : Nat → Value} (h : Up w S w' f) (e : f = g) : Up w S w' g := e ▸ h
theorem sc_congr {w : World} {S : Nat} {f g : Nat → Value} (h : SC w S f) (e : f = g) : SC w S g := e ▸ h

/-- Behind a value in frame d: a dictionary is due a key. -/
def valued (f : Nat → Value) (d : Nat) (b : Bool) : Nat → Value := if b = true then upd f (9 + d * 6 + 1) (.bool true) else f

set_option maxRecDepth 100000 in
set_option maxHeartbeats 4000000 in
/-- The outermost list starts. -/
theorem next_first (S Dt n cap p : Nat) (f : Nat → Value) (w : World) (hS : SC w S f) (L : Live f Dt n cap p 0 0) (hSD : Dt ≠ S) (hn : n ≤ 100000) (hp : p < n) (hc : w.cell? ⟨Dt, p, none⟩ = some (.int .u8 108)) (kl : Int) (hk : f 235 = .int .i64 kl) (hk1 : 0 ≤ kl) (hk2 : kl ≤ 100000) :
    Calls Ybaf.prog 13 #[.pointer (some ⟨S, 0, none⟩)] w fun e w' => e = .returned (.int .i64 3) ∧ Up w S w' (upd (opened (upd (upd f 7 (.int .i64 1)) 1 (.int .i64 (p + 1))) 0 false kl) 201 (.int .i64 1)) := by
  have c0 : w.cell? ⟨S, 0, none⟩ = some (.slice (some ⟨Dt, 0, none⟩) n cap) := by rw [hS.cell (by decide), L.h0]
  have c1 : w.cell? ⟨S, 1, none⟩ = some (.int .i64 p) := by rw [hS.cell (by decide), L.h1]
  have c2 : w.cell? ⟨S, 2, none⟩ = some .nilIface := by rw [hS.cell (by decide), L.h2]
  have c6 : w.cell? ⟨S, 6, none⟩ = some (.bool false) := by rw [hS.cell (by decide), L.h6]
  have c8 : w.cell? ⟨S, 8, none⟩ = some (.int .i64 0) := by rw [hS.cell (by decide), L.h8]
  have c7 : w.cell? ⟨S, 7, none⟩ = some (.int .i64 0) := by rw [hS.cell (by decide), L.h7]; rfl
  have c201 : w.cell? ⟨S, 201, none⟩ = some (.int .i64 0) := by rw [hS.cell (by decide), L.hd]; rfl
  have z : ∀ i, w.frozen? ⟨S, i, none⟩ = false := fun i => hS.frozen i
  have hDS : ¬ Dt = S := hSD
  have i0 : (0 : Int) ≤ (p : Int) := by omega
  have i1 : (p : Int) < (n : Int) := by omega
  have i2 : (n : Int) ≤ 100000 := by omega
  have hpe : ((p : Int) == (n : Int)) = false := by simp; omega
  have c235 : w.cell? ⟨S, 235, none⟩ = some (.int .i64 kl) := by rw [hS.cell (by decide), hk]
  have c9 : w.cell? ⟨S, 9, none⟩ = some (f 9) := hS.cell (by decide)
  have c10 : w.cell? ⟨S, 10, none⟩ = some (f 10) := hS.cell (by decide)
  have c11 : w.cell? ⟨S, 11, none⟩ = some (f 11) := hS.cell (by decide)
  have c12 : w.cell? ⟨S, 12, none⟩ = some (f 12) := hS.cell (by decide)
  have c13 : w.cell? ⟨S, 13, none⟩ = some (f 13) := hS.cell (by decide)
  have c14 : w.cell? ⟨S, 14, none⟩ = some (f 14) := hS.cell (by decide)
  clear L hk
  go_enter Ybaf.func13, Ybaf.ntmps13
  go_wp2_with fail
  go_quiet (fail)
  go_wp2_with fail
  go_quiet (fail)
  go_wp2_with fail
  go_quiet (fail)
  go_wp2_with fail
  go_quiet (fail)
  go_wp2_with fail
  go_region
  all_goals go_wp2_with fail
  go_ret
  exact ⟨rfl, up_drew (up_set (up_set (up_set (up_set (up_set (up_set (up_set (up_set (up_drewN (up_set (up_drewN (up_refl hS) _) 7 _) _) 1 _) 9 _) 10 _) 11 _) 12 _) 13 _) 14 _) 201 _)⟩

set_option maxRecDepth 100000 in
set_option maxHeartbeats 4000000 in
/-- An integer of one digit, in a list or as a dictionary's value. -/
theorem next_int (S Dt n cap p it d : Nat) (b : Bool) (f : Nat → Value) (w : World) (hS : SC w S f) (L : Live f Dt n cap p it (d + 1)) (hSD : Dt ≠ S) (hn : n ≤ 100000) (hcap : n ≤ cap) (hit : 1 ≤ it) (hit' : it ≤ 100000) (hd : d < 32) (hb : f (9 + d * 6) = .bool b) (hbk : b = true → f (9 + d * 6 + 1) = .bool false) (c : Int) (hp : p + 2 < n) (hc : w.cell? ⟨Dt, p, none⟩ = some (.int .u8 105)) (hg : w.cell? ⟨Dt, p + 1, none⟩ = some (.int .u8 c)) (hg1 : 48 ≤ c) (hg2 : c ≤ 57) (he : w.cell? ⟨Dt, p + 2, none⟩ = some (.int .u8 101)) :
    Calls Ybaf.prog 13 #[.pointer (some ⟨S, 0, none⟩)] w fun e w' => e = .returned (.int .i64 2) ∧ Up w S w' (valued (upd (upd (upd f 7 (.int .i64 (it + 1))) 1 (.int .i64 ((p + 3 : Nat) : Int))) 4 (.int .i64 (c - 48))) d b) := by
  have c0 : w.cell? ⟨S, 0, none⟩ = some (.slice (some ⟨Dt, 0, none⟩) n cap) := by rw [hS.cell (by decide), L.h0]
  have c1 : w.cell? ⟨S, 1, none⟩ = some (.int .i64 p) := by rw [hS.cell (by decide), L.h1]
  have c2 : w.cell? ⟨S, 2, none⟩ = some .nilIface := by rw [hS.cell (by decide), L.h2]
  have c6 : w.cell? ⟨S, 6, none⟩ = some (.bool false) := by rw [hS.cell (by decide), L.h6]
  have c8 : w.cell? ⟨S, 8, none⟩ = some (.int .i64 0) := by rw [hS.cell (by decide), L.h8]
  have c7 : w.cell? ⟨S, 7, none⟩ = some (.int .i64 it) := by rw [hS.cell (by decide), L.h7]
  have hit0 : ((it : Int) == 0) = false := by simp; omega
  have hit2 : (it : Int) ≤ 100000 := by omega
  have c201 : w.cell? ⟨S, 201, none⟩ = some (.int .i64 ((d : Int) + 1)) := by rw [hS.cell (by decide), L.hd]; rfl
  have cb : w.cell? ⟨S, 9 + d * 6, none⟩ = some (.bool b) := by rw [hS.cell (by omega), hb]
  have ck : w.cell? ⟨S, 9 + d * 6 + 1, none⟩ = some (f (9 + d * 6 + 1)) := hS.cell (by omega)
  have d0 : (0 : Int) ≤ (d : Int) := by omega
  have d1 : (d : Int) < 32 := by omega
  have d9 : ¬ 9 + d * 6 = 1 := by omega
  have d7 : ¬ 9 + d * 6 = 7 := by omega
  have e9 : ¬ 9 + d * 6 + 1 = 1 := by omega
  have e7 : ¬ 9 + d * 6 + 1 = 7 := by omega
  have z : ∀ i, w.frozen? ⟨S, i, none⟩ = false := fun i => hS.frozen i
  have hDS : ¬ Dt = S := hSD
  have i0 : (0 : Int) ≤ (p : Int) := by omega
  have i1 : (p : Int) < (n : Int) := by omega
  have i2 : (n : Int) ≤ 100000 := by omega
  have hpe : ((p : Int) == (n : Int)) = false := by simp; omega
  have U0 : ∀ n1 n2, Up w S ((((w.drewN n1).setCell ⟨S, 7, none⟩ (.int .i64 ((it : Int) + 1))).drewN n2).setCell ⟨S, 1, none⟩ (.int .i64 ((p : Int) + 1))) (upd (upd f 7 (.int .i64 ((it : Int) + 1))) 1 (.int .i64 ((p : Int) + 1))) := fun n1 n2 => up_set (up_drewN (up_set (up_drewN (up_refl hS) n1) 7 _) n2) 1 _
  have g1 : ¬ 9 + d * 6 = 4 := by omega
  have g2 : ¬ 9 + d * 6 = 1 := by omega
  have g3 : ¬ 9 + d * 6 = 7 := by omega
  cases b with
  | false =>
    clear hbk
    go_enter Ybaf.func13, Ybaf.ntmps13
    go_wp2_with fail
    go_quiet (fail)
    go_wp2_with fail
    go_quiet (fail)
    go_wp2_with fail
    go_quiet (fail)
    go_wp2_with fail
    go_quiet (fail)
    go_wp2_with fail
    go_quiet (fail)
    go_wp2_with fail
    refine (number_one S Dt n cap (p + 1) c 101 true _ _ (U0 _ _).sc ?_ ?_ hSD hn hcap (by omega) ?_ hg1 hg2 ?_ (by decide) (by decide)).mono ?_
    · exact L.h0
    · exact vint (by omega)
    · exact far_cell (U0 _ _).gr hg hSD
    · exact far_cell (U0 _ _).gr he hSD
    rintro e w1 ⟨rfl, hS1, hg1'⟩
    have U1 : Up w S w1 (upd (upd (upd f 7 (.int .i64 (it + 1))) 1 (.int .i64 ((p + 3 : Nat) : Int))) 4 (.int .i64 (c - 48))) :=
      up_congr (up_trans (U0 _ _) ⟨hS1, hg1'⟩) (by rw [upd_twice, show (((p + 1 : Nat) : Int) + 2) = ((p + 3 : Nat) : Int) by omega])
    clear hS1 hg1'
    go_wp2_with fail
    refine (valueRead_list S d _ _ U1.sc L.hd hd ?_).mono ?_
    · simpa [upd, g1, g2, g3] using hb
    rintro e w2 ⟨rfl, hS2, hg2'⟩
    have U2 := up_trans U1 ⟨hS2, hg2'⟩
    clear hS2 hg2'
    go_wp2_with fail
    go_ret
    exact ⟨rfl, U2⟩
  | true =>
    have hk := hbk rfl
    rw [hk] at ck
    clear hbk
    go_enter Ybaf.func13, Ybaf.ntmps13
    go_wp2_with fail
    go_quiet (fail)
    go_wp2_with fail
    go_quiet (fail)
    go_wp2_with fail
    go_quiet (fail)
    go_wp2_with fail
    go_quiet (fail)
    go_wp2_with fail
    go_quiet (fail)
    go_wp2_with fail
    refine (number_one S Dt n cap (p + 1) c 101 true _ _ (U0 _ _).sc ?_ ?_ hSD hn hcap (by omega) ?_ hg1 hg2 ?_ (by decide) (by decide)).mono ?_
    · exact L.h0
    · exact vint (by omega)
    · exact far_cell (U0 _ _).gr hg hSD
    · exact far_cell (U0 _ _).gr he hSD
    rintro e w1 ⟨rfl, hS1, hg1'⟩
    have U1 : Up w S w1 (upd (upd (upd f 7 (.int .i64 (it + 1))) 1 (.int .i64 ((p + 3 : Nat) : Int))) 4 (.int .i64 (c - 48))) :=
      up_congr (up_trans (U0 _ _) ⟨hS1, hg1'⟩) (by rw [upd_twice, show (((p + 1 : Nat) : Int) + 2) = ((p + 3 : Nat) : Int) by omega])
    clear hS1 hg1'
    go_wp2_with fail
    refine (valueRead_dict S d _ _ U1.sc L.hd hd ?_).mono ?_
    · simpa [upd, g1, g2, g3] using hb
    rintro e w2 ⟨rfl, hS2, hg2'⟩
    have U2 := up_trans U1 ⟨hS2, hg2'⟩
    clear hS2 hg2'
    go_wp2_with fail
    go_ret
    exact ⟨rfl, U2⟩

end Go.Proofs.YbulkaglsFmt
