/-
  THE SCANNER's MEMORY, and the walks of its small methods.
-/
import Derived.Test.YbulkaglsFmtCards
import Derived.WalkKit
import Derived.WalkSpells
import Derived.StillTactics
import Derived.Laws.Pointers
import Derived.Deep.RegionHeld3
import Derived.Deep.QuietTactic
import Derived.BigQuiet
import Derived.BigRegion
import Derived.RowKit3
import Derived.WalkSmall
import Derived.WalkLawsBesides
import Derived.Deep.LoopGhost
import Derived.Deep.AppendLies
import Derived.Deep.OwnRows
import Derived.Deep.CutRange
import Derived.Handy
namespace Go.Proofs.YbulkaglsFmt
open Go.RowKit

/-- A row with one cell turned. -/
def upd (f : Nat → Value) (i : Nat) (v : Value) : Nat → Value := fun j => if j = i then v else f j
theorem upd_same (f : Nat → Value) (i : Nat) (v : Value) : upd f i v i = v := by simp [upd]
theorem upd_other (f : Nat → Value) (i : Nat) (v : Value) (j : Nat) (h : j ≠ i) : upd f i v j = f j := by simp [upd, h]

theorem upd_twice (f : Nat → Value) (i : Nat) (u v : Value) : upd (upd f i u) i v = upd f i v := by
  funext j; simp only [upd]; split <;> rfl
theorem vint {k : IntKind} {a b : Int} (h : a = b) : Value.int k a = .int k b := by rw [h]

/-- The Scanner at block S: 236 cells. -/
abbrev SC (w : World) (S : Nat) (f : Nat → Value) : Prop := w.rowIs S 35 236 f

theorem sc_set {w : World} {S : Nat} {f : Nat → Value} (h : SC w S f) (i : Nat) (v : Value) : SC (w.setCell ⟨S, i, none⟩ v) S (upd f i v) := h.set i v
theorem sc_drewN {w : World} {S : Nat} {f : Nat → Value} (h : SC w S f) (n : Nat) : SC (w.drewN n) S f := h.of_block rfl

theorem grown_trans {w w1 w2 : World} {row : Option Nat} (h : w.grownBy w1 row) (k : w1.grownBy w2 row) : w.grownBy w2 row :=
  ⟨k.os.trans h.os, k.tape.trans h.tape, k.output.trans h.output, Nat.le_trans h.size k.size, fun i hi hr => (k.block i (Nat.lt_of_lt_of_le hi h.size) hr).trans (h.block i hi hr)⟩
theorem grown_of_below {w w1 : World} (row : Option Nat) (h : Below w.heap.size w w1) : w.grownBy w1 row :=
  ⟨h.os, h.tape, h.output, h.size, fun i hi _ => h.block i hi⟩
theorem grown_set {w w1 : World} {C : Nat} (h : w.grownBy w1 (some C)) (o : Nat) (u : Value) : w.grownBy (w1.setCell ⟨C, o, none⟩ u) (some C) :=
  grown_trans h ⟨rfl, rfl, rfl, by simp [World.setCell], fun i _ hr => Below.heap_setCell _ _ _ _ (by intro e; exact hr (by rw [e]))⟩
theorem grown_drewN {w w1 : World} {row : Option Nat} (h : w.grownBy w1 row) (n : Nat) : w.grownBy (w1.drewN n) row :=
  grown_trans h ⟨rfl, rfl, rfl, Nat.le_refl _, fun _ _ _ => rfl⟩
theorem grown_alloc {w w1 : World} {row : Option Nat} (h : w.grownBy w1 row) (o : Obj) : w.grownBy (w1.alloc o) row :=
  grown_trans h (World.grownBy_alloc _ _ _)

theorem number_end {w : World} {S p : Nat} {f : Nat → Value} {d c : Int} (hS : SC w S f) (hd : d = c - 48) (n1 n2 : Nat) :
    SC (((((w.drewN n1).setCell ⟨S, 1, none⟩ (.int .i64 ((p : Int) + 1))).drewN n2).setCell ⟨S, 1, none⟩ (.int .i64 ((p : Int) + 1 + 1))).setCell ⟨S, 4, none⟩ (.int .i64 d)) S (upd (upd f 1 (.int .i64 ((p : Int) + 2))) 4 (.int .i64 (c - 48))) := by
  have h := sc_set (sc_set (sc_drewN (sc_set (sc_drewN hS n1) 1 (.int .i64 ((p : Int) + 1))) n2) 1 (.int .i64 ((p : Int) + 1 + 1))) 4 (.int .i64 d)
  rw [upd_twice, hd, show (p : Int) + 1 + 1 = p + 2 by omega] at h
  subst hd
  rw [show (p : Int) + 1 + 1 = p + 2 by omega]
  exact h

set_option maxRecDepth 100000 in
set_option maxHeartbeats 2000000 in
/-- (*Scanner).number at one digit and its end. -/
theorem number_one (S Dt n cap p : Nat) (c en : Int) (sg : Bool) (f : Nat → Value) (w : World) (hS : SC w S f) (h0 : f 0 = .slice (some ⟨Dt, 0, none⟩) n cap) (h1 : f 1 = .int .i64 p) (hSD : Dt ≠ S)
    (hn : n ≤ 100000) (hcap : n ≤ cap) (hp : p + 1 < n) (hc : w.cell? ⟨Dt, p, none⟩ = some (.int .u8 c)) (hc1 : 48 ≤ c) (hc2 : c ≤ 57) (he : w.cell? ⟨Dt, p + 1, none⟩ = some (.int .u8 en)) (hen : 57 < en) (hen2 : en ≤ 255) :
    Calls Ybaf.prog 16 #[.pointer (some ⟨S, 0, none⟩), .int .u8 en, .bool sg] w fun e w' => e = .returned (.bool true) ∧ SC w' S (upd (upd f 1 (.int .i64 (p + 2))) 4 (.int .i64 (c - 48))) ∧ w.grownBy w' (some S) := by
  have c0 : w.cell? ⟨S, 0, none⟩ = some (.slice (some ⟨Dt, 0, none⟩) n cap) := by rw [hS.cell (by decide), h0]
  have c1 : w.cell? ⟨S, 1, none⟩ = some (.int .i64 p) := by rw [hS.cell (by decide), h1]
  have c4 : w.cell? ⟨S, 4, none⟩ = some (f 4) := hS.cell (by decide)
  have z1 := hS.frozen 1
  have z4 := hS.frozen 4
  have hDS : ¬ Dt = S := hSD
  have i0 : (0 : Int) ≤ (p : Int) := by omega
  have i1 : (p : Int) < (n : Int) := by omega
  have i2 : (p : Int) + 1 < (n : Int) := by omega
  have i3 : (n : Int) ≤ (cap : Int) := by omega
  have hne : ¬ cap = p := by omega
  have h45 : (c == 45) = false := by simp; omega
  have hend : (((p : Int) + 1) == (n : Int)) = false := by simp; omega
  clear h0 h1
  by_cases hd : c = 48
  · subst hd
    cases sg
    · go_enter Ybaf.func16, Ybaf.ntmps16
      go_wp2_with fail
      go_quiet (fail)
      go_wp2_with fail
      refine wp_loop_rounds 2 ?_
      rw [rounds_succ]
      go_wp2_with fail
      rw [rounds_succ]
      go_wp2_with fail
      go_quiet (fail)
      go_wp2_with fail
      go_quiet (fail)
      go_wp2_with fail
      go_ret
      exact ⟨rfl, number_end hS (by omega) _ _, grown_set (grown_set (grown_drewN (grown_set (grown_drewN (World.grownBy.refl _ _) _) _ _) _) _ _) _ _⟩
    · go_enter Ybaf.func16, Ybaf.ntmps16
      go_wp2_with fail
      go_quiet (fail)
      go_wp2_with fail
      refine wp_loop_rounds 2 ?_
      rw [rounds_succ]
      go_wp2_with fail
      rw [rounds_succ]
      go_wp2_with fail
      go_quiet (fail)
      go_wp2_with fail
      go_quiet (fail)
      go_wp2_with fail
      go_ret
      exact ⟨rfl, number_end hS (by omega) _ _, grown_set (grown_set (grown_drewN (grown_set (grown_drewN (World.grownBy.refl _ _) _) _ _) _) _ _) _ _⟩
  · have hd' : (c == 48) = false := by simpa using hd
    clear hd
    cases sg
    · go_enter Ybaf.func16, Ybaf.ntmps16
      go_wp2_with fail
      go_quiet (fail)
      go_wp2_with fail
      refine wp_loop_rounds 2 ?_
      rw [rounds_succ]
      go_wp2_with fail
      rw [rounds_succ]
      go_wp2_with fail
      go_quiet (fail)
      go_wp2_with fail
      go_quiet (fail)
      go_wp2_with fail
      go_ret
      exact ⟨rfl, number_end hS rfl _ _, grown_set (grown_set (grown_drewN (grown_set (grown_drewN (World.grownBy.refl _ _) _) _ _) _) _ _) _ _⟩
    · go_enter Ybaf.func16, Ybaf.ntmps16
      go_wp2_with fail
      go_quiet (fail)
      go_wp2_with fail
      refine wp_loop_rounds 2 ?_
      rw [rounds_succ]
      go_wp2_with fail
      rw [rounds_succ]
      go_wp2_with fail
      go_quiet (fail)
      go_wp2_with fail
      go_quiet (fail)
      go_wp2_with fail
      go_ret
      exact ⟨rfl, number_end hS rfl _ _, grown_set (grown_set (grown_drewN (grown_set (grown_drewN (World.grownBy.refl _ _) _) _ _) _) _ _) _ _⟩

end Go.Proofs.YbulkaglsFmt
