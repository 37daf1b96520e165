/-
  WALKS: (*Scanner).next where the data ends inside the container.
-/
import Derived.Test.YbulkaglsFmtFail
import Derived.Test.YbulkaglsFmtNext
namespace Go.Proofs.YbulkaglsFmt
open Go.RowKit Go.Extern.Stop Go.Stop Go.Extern

theorem hidt {p : Prop} (h : p) : Hid p := h

set_option maxRecDepth 100000 in
set_option maxHeartbeats 4000000 in
/-- The data ends inside the container. -/
theorem next_trunc_false (F : Interp) (S Dt n cap it : Nat) (f : Nat → Value) (w : World) (hF : F.answers w.tape) (hS : SC w S f) (L : Live f Dt n cap n it 2) (hn : n ≤ 100000) (hit : 1 ≤ it) (hit' : it ≤ 100000) (hb : f 15 = .bool false) :
    Calls Ybaf.prog 13 #[.pointer (some ⟨S, 0, none⟩)] w fun e w' => e = .returned (.int .i64 0) ∧ ∃ a g, SC w' S g ∧ g 2 = .iface 65 (.pointer (some a)) ∧ w.grownBy w' (some S) := by
  have c0 : w.cell? ⟨S, 0, none⟩ = some (.slice (some ⟨Dt, 0, none⟩) n cap) := by rw [hS.cell (by decide), L.h0]
  have c1 : w.cell? ⟨S, 1, none⟩ = some (.int .i64 n) := by rw [hS.cell (by decide), L.h1]
  have c2 : w.cell? ⟨S, 2, none⟩ = some .nilIface := by rw [hS.cell (by decide), L.h2]
  have c6 : w.cell? ⟨S, 6, none⟩ = some (.bool false) := by rw [hS.cell (by decide), L.h6]
  have c8 : w.cell? ⟨S, 8, none⟩ = some (.int .i64 0) := by rw [hS.cell (by decide), L.h8]
  have c7 : w.cell? ⟨S, 7, none⟩ = some (.int .i64 it) := by rw [hS.cell (by decide), L.h7]
  have hit0 : ((it : Int) == 0) = false := by simp; omega
  have hit2 : (it : Int) ≤ 100000 := by omega
  have c201 : w.cell? ⟨S, 201, none⟩ = some (.int .i64 2) := by rw [hS.cell (by decide), L.hd]; rfl
  have cb : w.cell? ⟨S, 15, none⟩ = some (.bool false) := by rw [hS.cell (by decide), hb]
  have z : ∀ i, w.frozen? ⟨S, i, none⟩ = false := fun i => hS.frozen i
  have i2 : (n : Int) ≤ 100000 := by omega
  have hpe : ((n : Int) == (n : Int)) = true := by simp
  have HL := hidt L
  have U0 : ∀ n1 n2, Up w S (((w.drewN n1).setCell ⟨S, 7, none⟩ (.int .i64 ((it : Int) + 1))).drewN n2) (upd f 7 (.int .i64 ((it : Int) + 1))) := fun n1 n2 => up_drewN (up_set (up_drewN (up_refl hS) n1) 7 _) n2
  have HFw : ∀ n1 n2, F.answers (((w.drewN n1).setCell ⟨S, 7, none⟩ (.int .i64 ((it : Int) + 1))).drewN n2).tape := fun _ _ => hF
  clear L
  go_enter Ybaf.func13, Ybaf.ntmps13
  go_wp2_with fail
  go_quiet (fail)
  go_wp2_with fail
  go_quiet (fail)
  go_wp2_with fail
  go_quiet (fail)
  go_wp2_with fail
  go_quiet (fail)
  go_wp2_with fail
  refine (fail_list F S n _ _ (HFw _ _) (U0 _ _).sc HL.out.h1).mono ?_
  rintro e w2 ⟨rfl, a, hS2, hg2⟩
  have U2 := hidt (grown_trans (U0 _ _).gr hg2)
  have HS2 := hidt hS2
  clear hS2 hg2
  go_wp2_with fail
  go_ret
  exact ⟨rfl, a, _, HS2.out, rfl, U2.out⟩

set_option maxRecDepth 100000 in
set_option maxHeartbeats 4000000 in
/-- The data ends inside the container. -/
theorem next_trunc_true (F : Interp) (S Dt n cap it : Nat) (f : Nat → Value) (w : World) (hF : F.answers w.tape) (hS : SC w S f) (L : Live f Dt n cap n it 2) (hn : n ≤ 100000) (hit : 1 ≤ it) (hit' : it ≤ 100000) (hb : f 15 = .bool true) :
    Calls Ybaf.prog 13 #[.pointer (some ⟨S, 0, none⟩)] w fun e w' => e = .returned (.int .i64 0) ∧ ∃ a g, SC w' S g ∧ g 2 = .iface 65 (.pointer (some a)) ∧ w.grownBy w' (some S) := by
  have c0 : w.cell? ⟨S, 0, none⟩ = some (.slice (some ⟨Dt, 0, none⟩) n cap) := by rw [hS.cell (by decide), L.h0]
  have c1 : w.cell? ⟨S, 1, none⟩ = some (.int .i64 n) := by rw [hS.cell (by decide), L.h1]
  have c2 : w.cell? ⟨S, 2, none⟩ = some .nilIface := by rw [hS.cell (by decide), L.h2]
  have c6 : w.cell? ⟨S, 6, none⟩ = some (.bool false) := by rw [hS.cell (by decide), L.h6]
  have c8 : w.cell? ⟨S, 8, none⟩ = some (.int .i64 0) := by rw [hS.cell (by decide), L.h8]
  have c7 : w.cell? ⟨S, 7, none⟩ = some (.int .i64 it) := by rw [hS.cell (by decide), L.h7]
  have hit0 : ((it : Int) == 0) = false := by simp; omega
  have hit2 : (it : Int) ≤ 100000 := by omega
  have c201 : w.cell? ⟨S, 201, none⟩ = some (.int .i64 2) := by rw [hS.cell (by decide), L.hd]; rfl
  have cb : w.cell? ⟨S, 15, none⟩ = some (.bool true) := by rw [hS.cell (by decide), hb]
  have z : ∀ i, w.frozen? ⟨S, i, none⟩ = false := fun i => hS.frozen i
  have i2 : (n : Int) ≤ 100000 := by omega
  have hpe : ((n : Int) == (n : Int)) = true := by simp
  have HL := hidt L
  have U0 : ∀ n1 n2, Up w S (((w.drewN n1).setCell ⟨S, 7, none⟩ (.int .i64 ((it : Int) + 1))).drewN n2) (upd f 7 (.int .i64 ((it : Int) + 1))) := fun n1 n2 => up_drewN (up_set (up_drewN (up_refl hS) n1) 7 _) n2
  have HFw : ∀ n1 n2, F.answers (((w.drewN n1).setCell ⟨S, 7, none⟩ (.int .i64 ((it : Int) + 1))).drewN n2).tape := fun _ _ => hF
  clear L
  go_enter Ybaf.func13, Ybaf.ntmps13
  go_wp2_with fail
  go_quiet (fail)
  go_wp2_with fail
  go_quiet (fail)
  go_wp2_with fail
  go_quiet (fail)
  go_wp2_with fail
  go_quiet (fail)
  go_wp2_with fail
  refine (fail_dict F S n _ _ (HFw _ _) (U0 _ _).sc HL.out.h1).mono ?_
  rintro e w2 ⟨rfl, a, hS2, hg2⟩
  have U2 := hidt (grown_trans (U0 _ _).gr hg2)
  have HS2 := hidt hS2
  clear hS2 hg2
  go_wp2_with fail
  go_ret
  exact ⟨rfl, a, _, HS2.out, rfl, U2.out⟩

end Go.Proofs.YbulkaglsFmt
