/-
  THE WALKS of zzs1633askip and Walker.Skip.
-/
import Derived.Test.YbulkaguiRows
import Derived.WalkKit
import Derived.WalkSpells
import Derived.StillTactics
import Derived.Laws.Pointers
import Derived.Deep.RegionHeld3
import Derived.Deep.QuietTactic
import Derived.BigQuiet
import Derived.BigRegion
import Derived.RowKit3
import Derived.WalkSmall
import Derived.WalkLawsBesides
import Derived.Deep.LoopGhost
import Derived.Deep.AppendLies
import Derived.Deep.OwnRows
import Derived.Deep.CutRange
import Derived.Deep.RegionLaw
import Derived.Lib.OwnKind
import Derived.Handy
import Derived.LaidEqlPtr
namespace Go.Proofs.Ybulkagui
open Go.RowKit Go.Lib

theorem hid {p : Prop} (h : p) : Hid p := h

/-- The argument 'skips': its cells. -/
structure Skips (w : World) (ad : Option Addr) (b off len : Nat) (s : Nat → Bool) : Prop where
  ad : len ≠ 0 → ad = some ⟨b, off, none⟩
  cell : ∀ j, j < len → w.cell? ⟨b, off + j, none⟩ = some (.bool (s j))

/-- Is statement c skipped? -/
def skipped (len : Nat) (s : Nat → Bool) (c : Nat) : Bool := decide (c - 1 < len) && s (c - 1)

set_option maxRecDepth 100000 in
theorem skip_any (ad : Option Addr) (b off len cap : Nat) (s : Nat → Bool) (c : Nat) (w : World) (h : Skips w ad b off len s) (hc : 1 ≤ c) (hc2 : c ≤ 100000) (hl : len ≤ maxLen) :
    Calls Yba.prog 6 #[.slice ad len cap, .int .i64 c] w fun e w' => e = .returned (.bool (skipped len s c)) ∧ w' = w := by
  obtain ⟨k, rfl⟩ : ∃ k, c = k + 1 := ⟨c - 1, by omega⟩
  have hl2 : (len : Int) ≤ 9223372036854775807 := by unfold maxLen at hl; omega
  have hk0 : (k : Int) ≤ 100000 := by omega
  have e : skipped len s (k + 1) = (decide (k < len) && s k) := by simp [skipped]
  rw [e]
  clear e hl
  by_cases hlt : k < len
  · have hlt' : (k : Int) < (len : Int) := by omega
    have hade := h.ad (by omega)
    subst hade
    have hcell := h.cell k hlt
    have he : (decide (k < len) && s k) = s k := by simp [hlt]
    rw [he]
    clear he
    go_enter Yba.func6, Yba.ntmps6
    go_wp2_with fail
    go_ret
    exact ⟨rfl, rfl⟩
  · have hlt' : ¬ (k : Int) < (len : Int) := by omega
    have he : (decide (k < len) && s k) = false := by simp [hlt]
    rw [he]
    clear he
    go_enter Yba.func6, Yba.ntmps6
    go_wp2_with fail
    go_ret
    exact ⟨rfl, rfl⟩

/-- A node's pointer: 18 cells a node from the head of block ND. -/
def ptr (ND : Nat) (i : Option Nat) : Value := .pointer (i.map fun i => (⟨ND, i * 18, none⟩ : Addr))

/-- The nodes' links in memory. -/
def Links (w : World) (ND n : Nat) (first next : Nat → Option Nat) : Prop :=
  ∀ i, i ≤ n → w.cell? ⟨ND, i * 18 + 6, none⟩ = some (ptr ND (first i)) ∧ w.cell? ⟨ND, i * 18 + 7, none⟩ = some (ptr ND (next i))

/-- The Walker at block K: its stack, the innermost first; the statement read last. -/
structure Walk (w : World) (base K ND : Nat) (st : List (Option Nat)) (last : Option Nat) : Prop where
  row : ∃ v, w.rowIs K 43 2 (fun j => if j = 0 then v else ptr ND last) ∧ w.ownsRow base 27 1 v st.length (st.reverse.map (ptr ND))

theorem grown_set1 (w : World) (C o : Nat) (u : Value) : w.grownBy (w.setCell ⟨C, o, none⟩ u) (some C) :=
  ⟨rfl, rfl, rfl, by simp [World.setCell], fun i _ hr => Below.heap_setCell _ _ _ _ (by intro e; exact hr (by rw [e]))⟩

theorem row_ne {w : World} {b N base n : Nat} {t e : TypeId} {f : Nat → Value} {v : Value} {xs : List Value} (hr : w.rowIs b t N f) (ho : w.ownsRow base e 1 v n xs) (hne : t ≠ e) : some b ≠ v.ownBlock := by
  intro h
  obtain ⟨c, fz, hc⟩ := ownsRow_kind ho b h.symm
  obtain ⟨c', hc', _⟩ := hr
  rw [hc'] at hc
  injection hc with hc
  injection hc with _ h2 _
  exact hne h2

/-- A store into a block that is not the row's. -/
theorem own_set {w : World} {base K o n : Nat} {e : TypeId} {v u : Value} {xs : List Value} (ho : w.ownsRow base e 1 v n xs) (hne : some K ≠ v.ownBlock) : (w.setCell ⟨K, o, none⟩ u).ownsRow base e 1 v n xs :=
  ho.kept (grown_set1 w K o u) (Or.inr (fun e => hne e.symm))

set_option maxRecDepth 100000 in
theorem wskip_any (base K ND : Nat) (st : List (Option Nat)) (last : Option Nat) (w : World) (h : Walk w base K ND st last) :
    Calls Yba.prog 7 #[.pointer (some ⟨K, 0, none⟩)] w fun e w' => e = .returned (.tuple #[]) ∧ Walk w' base K ND st none ∧ w' = w.setCell ⟨K, 1, none⟩ (.pointer none) := by
  obtain ⟨v, hr, ho⟩ := h.row
  have c1 := hr.cell (i := 1) (by decide)
  have z1 := hr.frozen 1
  go_enter Yba.func7, Yba.ntmps7
  go_wp2_with fail
  go_end0
  refine ⟨rfl, ⟨⟨v, (hr.set 1 _).congr (fun i hi => ?_), own_set ho (row_ne hr ho (by decide))⟩⟩, rfl⟩
  match i, hi with
  | 0, _ => rfl
  | 1, _ => rfl

end Go.Proofs.Ybulkagui
