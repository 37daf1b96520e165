/-
  WALKS: (*Scanner).Reset, Next, and Skip behind an atom.
-/
import Derived.Test.YbulkaglsFmtNext
namespace Go.Proofs.YbulkaglsFmt
open Go.RowKit

/-- Next notes the kind that next answers. -/
theorem Next_of (S : Nat) (w : World) (K : Int) (g : Nat → Value) (h : Calls Ybaf.prog 13 #[.pointer (some ⟨S, 0, none⟩)] w fun e w' => e = .returned (.int .i64 K) ∧ Up w S w' g) :
    Calls Ybaf.prog 8 #[.pointer (some ⟨S, 0, none⟩)] w fun e w' => e = .returned (.int .i64 K) ∧ Up w S w' (upd g 5 (.int .i64 K)) := by
  have H : Hid (Calls Ybaf.prog 13 #[.pointer (some ⟨S, 0, none⟩)] w fun e w' => e = .returned (.int .i64 K) ∧ Up w S w' g) := h
  clear h
  go_enter Ybaf.func8, Ybaf.ntmps8
  go_wp2_with fail
  refine H.out.mono ?_
  rintro e w1 ⟨rfl, U⟩
  have c5 : w1.cell? ⟨S, 5, none⟩ = some (g 5) := U.sc.cell (by decide)
  have z5 := U.sc.frozen 5
  clear H
  go_wp2_with fail
  go_ret
  exact ⟨rfl, up_set U 5 _⟩

/-- Skip behind an item that opens nothing. -/
theorem skip_noop (S : Nat) (f : Nat → Value) (w : World) (hS : SC w S f) (K : Int) (h5 : f 5 = .int .i64 K) (h3 : (K != 3) = true) (h4 : (K != 4) = true) :
    Calls Ybaf.prog 9 #[.pointer (some ⟨S, 0, none⟩)] w fun e w' => e = .returned (.tuple #[]) ∧ w' = w := by
  have c5 : w.cell? ⟨S, 5, none⟩ = some (.int .i64 K) := by rw [hS.cell (by decide), h5]
  go_enter Ybaf.func9, Ybaf.ntmps9
  go_wp2_with fail
  exact bodyPost_ret (v := .tuple #[]) (by simp [results, Ybaf.results9, go_sem]) rfl ⟨rfl, rfl⟩

/-- What Reset makes of a Scanner. -/
def reset (f : Nat → Value) (v : Value) : Nat → Value :=
  upd (upd (upd (upd (upd (upd (upd (upd (upd (upd f 0 v) 1 (.int .i64 0)) 2 .nilIface) 3 (.slice none 0 0)) 4 (.int .i64 0)) 5 (.int .i64 0)) 6 (.bool false)) 201 (.int .i64 0)) 7 (.int .i64 0)) 235 (.int .i64 0)

set_option maxHeartbeats 1000000 in
theorem reset_any (S : Nat) (f : Nat → Value) (w : World) (hS : SC w S f) (a : Option Addr) (n cap : Nat) :
    Calls Ybaf.prog 7 #[.pointer (some ⟨S, 0, none⟩), .slice a n cap] w fun e w' => e = .returned (.tuple #[]) ∧ Up w S w' (reset f (.slice a n cap)) := by
  have c0 : w.cell? ⟨S, 0, none⟩ = some (f 0) := hS.cell (by decide)
  have c1 : w.cell? ⟨S, 1, none⟩ = some (f 1) := hS.cell (by decide)
  have c2 : w.cell? ⟨S, 2, none⟩ = some (f 2) := hS.cell (by decide)
  have c3 : w.cell? ⟨S, 3, none⟩ = some (f 3) := hS.cell (by decide)
  have c4 : w.cell? ⟨S, 4, none⟩ = some (f 4) := hS.cell (by decide)
  have c5 : w.cell? ⟨S, 5, none⟩ = some (f 5) := hS.cell (by decide)
  have c6 : w.cell? ⟨S, 6, none⟩ = some (f 6) := hS.cell (by decide)
  have c7 : w.cell? ⟨S, 7, none⟩ = some (f 7) := hS.cell (by decide)
  have c201 : w.cell? ⟨S, 201, none⟩ = some (f 201) := hS.cell (by decide)
  have c235 : w.cell? ⟨S, 235, none⟩ = some (f 235) := hS.cell (by decide)
  have z : ∀ i, w.frozen? ⟨S, i, none⟩ = false := fun i => hS.frozen i
  go_enter Ybaf.func7, Ybaf.ntmps7
  go_wp2_with fail
  go_end0
  exact ⟨rfl, up_set (up_set (up_set (up_set (up_set (up_set (up_set (up_set (up_set (up_set (up_refl hS) 0 _) 1 _) 2 _) 3 _) 4 _) 5 _) 6 _) 201 _) 7 _) 235 _⟩

end Go.Proofs.YbulkaglsFmt
