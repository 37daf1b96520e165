/-
  WALKS over package time at this dump: the functions on the road of LawS1617CLeast, at times without a monotonic reading, a whole number of seconds, no location.
-/
import Derived.Test.YbulkaglsRows
import Derived.WalkKit
import Derived.WalkSpells
import Derived.StillTactics
import Derived.Laws.Pointers
import Derived.Deep.RegionHeld3
import Derived.Deep.QuietTactic
import Derived.BigQuiet
import Derived.RowKit3
import Derived.Deep.DeepMust
namespace Go.Proofs.Ybulkagls
open Go.RowKit

/-- The instant s seconds behind the zero time, as a value. -/
abbrev tm (s : Int) : Value := .agg #[.int .u64 0, .int .i64 s, .pointer none]

theorem bcell {W w1 : World} (hb : Below W.heap.size W w1) : (∀ b o, b < W.heap.size → w1.cell? ⟨b, o, none⟩ = W.cell? ⟨b, o, none⟩) ∧ (∀ b o, b < W.heap.size → w1.frozen? ⟨b, o, none⟩ = W.frozen? ⟨b, o, none⟩) :=
  ⟨fun b o h => hb.cell (p := ⟨b, o, none⟩) h, fun b o h => hb.frozen (p := ⟨b, o, none⟩) h⟩

theorem below_undrew {B : Nat} {W w1 : World} (hb : Below B W.drew w1) : Below B W w1 := ⟨hb.os, hb.tape, hb.output, hb.size, hb.block⟩
theorem bcell_drew {W w1 : World} (hb : Below W.drew.heap.size W.drew w1) : (∀ b o, b < W.heap.size → w1.cell? ⟨b, o, none⟩ = W.cell? ⟨b, o, none⟩) ∧ (∀ b o, b < W.heap.size → w1.frozen? ⟨b, o, none⟩ = W.frozen? ⟨b, o, none⟩) :=
  bcell (W := W) (below_undrew hb)

/-- (*time.Time).nsec -/
theorem nsec_any (b o : Nat) (w : World) (h0 : w.cell? ⟨b, o, none⟩ = some (.int .u64 0)) :
    Calls Yba.prog 12 #[.pointer (some ⟨b, o, none⟩)] w fun e w' => e = .returned (.int .i32 0) ∧ w' = w := by
  have hb0 : bits BinOp.and IntKind.u64 0 1073741823 = 0 := by decide
  go_enter Yba.func12, Yba.ntmps12
  go_wp2
  go_ret
  exact ⟨rfl, rfl⟩

/-- (*time.Time).sec -/
theorem sec_any (b o : Nat) (s : Int) (w : World) (h0 : w.cell? ⟨b, o, none⟩ = some (.int .u64 0)) (h1 : w.cell? ⟨b, o + 1, none⟩ = some (.int .i64 s)) :
    Calls Yba.prog 17 #[.pointer (some ⟨b, o, none⟩)] w fun e w' => e = .returned (.int .i64 s) ∧ w' = w := by
  go_enter Yba.func17, Yba.ntmps17
  go_wp2
  go_ret
  exact ⟨rfl, rfl⟩

/-- (*time.Time).addSec -/
theorem addSec_any (b o : Nat) (s d : Int) (w : World) (hs : -4000000000 ≤ s ∧ s ≤ 4000000000) (hd : -4000000000 ≤ d ∧ d ≤ 4000000000) (h0 : w.cell? ⟨b, o, none⟩ = some (.int .u64 0)) (h1 : w.cell? ⟨b, o + 1, none⟩ = some (.int .i64 s)) (f1 : w.frozen? ⟨b, o + 1, none⟩ = false) :
    Calls Yba.prog 13 #[.pointer (some ⟨b, o, none⟩), .int .i64 d] w fun e w' => e = .returned (.tuple #[]) ∧ w' = w.setCell ⟨b, o + 1, none⟩ (.int .i64 (s + d)) := by
  obtain ⟨s1, s2⟩ := hs
  obtain ⟨d1, d2⟩ := hd
  by_cases hp : 0 < d
  · have e1 : s < s + d := by omega
    go_enter Yba.func13, Yba.ntmps13
    go_wp2
    go_end0
    exact ⟨rfl, rfl⟩
  · have e1 : ¬ s < s + d := by omega
    go_enter Yba.func13, Yba.ntmps13
    go_wp2
    go_end0
    exact ⟨rfl, rfl⟩

/-- (time.Time).Add, by a whole number of seconds -/
theorem add_any (s k d : Int) (w : World) (hs : -4000000000 ≤ s ∧ s ≤ 4000000000) (hk : -4000000000 ≤ k ∧ k ≤ 4000000000) (hd : d = k * 1000000000) :
    Calls Yba.prog 7 #[tm s, .int .i64 d] w fun e w' => e = .returned (tm (s + k)) ∧ ∃ c1 c2 : Array Value, w' = (w.alloc (.cells c1 28)).alloc (.cells c2 28) := by
  have hq : d.tdiv 1000000000 = k := by rw [hd]; exact Int.mul_tdiv_cancel _ (by decide)
  have hr : d.tmod 1000000000 = 0 := by rw [hd]; exact Int.mul_tmod_left _ _
  have b1 : bits BinOp.andNot IntKind.u64 0 1073741823 = 0 := by decide
  have b2 : bits BinOp.or IntKind.u64 0 0 = 0 := by decide
  have D : Hid (d = k * 1000000000) := hd
  have d1 : -4000000000000000000 ≤ d := by omega
  have d2 : d ≤ 4000000000000000000 := by omega
  clear hd
  have S := hs
  have K := hk
  obtain ⟨s1, s2⟩ := hs
  obtain ⟨k1, k2⟩ := hk
  go_enter Yba.func7, Yba.ntmps7
  go_wp2_with fail
  refine (nsec_any _ _ _ ?_).mono ?_
  · simp
  rintro e w' ⟨rfl, rfl⟩
  go_wp2_with fail
  refine (addSec_any _ _ s k _ S K ?_ ?_ ?_).mono ?_
  · simp
  · simp
  · simp
  rintro e w' ⟨rfl, rfl⟩
  go_wp2_with fail
  exact bodyPost_ret (v := tm (s + k)) (by simp [results, Yba.results7, go_sem]) rfl ⟨rfl, _, _, rfl⟩

/-- (time.Time).Equal -/
theorem equal_any (s t : Int) (w : World) :
    Calls Yba.prog 19 #[tm s, tm t] w fun e w' => e = .returned (.bool (s == t)) ∧ ∃ c1 c2 : Array Value, w' = (w.alloc (.cells c1 28)).alloc (.cells c2 28) := by
  have b1 : bits BinOp.and IntKind.u64 0 0 = 0 := by decide
  by_cases h : s = t
  · subst h
    go_enter Yba.func19, Yba.ntmps19
    go_wp2
    go_ret
    exact ⟨by simp, _, _, rfl⟩
  · have h' : (s == t) = false := beq_eq_false_iff_ne.2 h
    clear h
    go_enter Yba.func19, Yba.ntmps19
    go_wp2
    go_ret
    exact ⟨by simp [h'], _, _, rfl⟩

/-- (time.Time).Before -/
theorem before_any (s t : Int) (w : World) :
    Calls Yba.prog 10 #[tm s, tm t] w fun e w' => e = .returned (.bool (decide (s < t))) ∧ ∃ c1 c2 : Array Value, w' = (w.alloc (.cells c1 28)).alloc (.cells c2 28) := by
  have b1 : bits BinOp.and IntKind.u64 0 0 = 0 := by decide
  rcases Int.lt_trichotomy s t with h | h | h
  · go_enter Yba.func10, Yba.ntmps10
    go_wp2
    go_ret
    exact ⟨by simp [h], _, _, rfl⟩
  · subst h
    go_enter Yba.func10, Yba.ntmps10
    go_wp2
    go_ret
    exact ⟨by simp, _, _, rfl⟩
  · have h' : (s == t) = false := beq_eq_false_iff_ne.2 (by omega)
    have h2 : ¬ s < t := by omega
    clear h
    go_enter Yba.func10, Yba.ntmps10
    go_wp2
    go_ret
    exact ⟨by simp [h2], _, _, rfl⟩

/-- (time.Time).After -/
theorem after_any (s t : Int) (w : World) :
    Calls Yba.prog 16 #[tm s, tm t] w fun e w' => e = .returned (.bool (decide (t < s))) ∧ ∃ c1 c2 : Array Value, w' = (w.alloc (.cells c1 28)).alloc (.cells c2 28) := by
  have b1 : bits BinOp.and IntKind.u64 0 0 = 0 := by decide
  rcases Int.lt_trichotomy t s with h | h | h
  · go_enter Yba.func16, Yba.ntmps16
    go_wp2
    go_ret
    exact ⟨by simp [h], _, _, rfl⟩
  · subst h
    go_enter Yba.func16, Yba.ntmps16
    go_wp2
    go_ret
    exact ⟨by simp, _, _, rfl⟩
  · have h' : (s == t) = false := beq_eq_false_iff_ne.2 (by omega)
    have h2 : ¬ t < s := by omega
    clear h
    go_enter Yba.func16, Yba.ntmps16
    go_wp2
    go_ret
    exact ⟨by simp [h2], _, _, rfl⟩

/-- zzs1617cat -/
theorem cat_any (m : Int) (w : World) (h1 : -32768 ≤ m) (h2 : m ≤ 32767) :
    Calls Yba.prog 4 #[.int .i16 m] w fun e w' => e = .returned (tm (m * 60)) ∧ ∃ c1 c2 c3 : Array Value, w' = ((w.alloc (.cells c1 28)).alloc (.cells c2 28)).alloc (.cells c3 28) := by
  go_enter Yba.func4, Yba.ntmps4
  go_wp2_with fail
  refine (add_any 0 (m * 60) _ _ (by decide) (by omega) (by omega)).mono ?_
  rintro e w' ⟨rfl, c1, c2, rfl⟩
  go_wp2_with fail
  exact bodyPost_ret (v := tm (m * 60)) (by simp [results, Yba.results4, go_sem]) rfl ⟨rfl, _, _, _, rfl⟩

/-- (time.Time).Sub -/
theorem sub_any (s t : Int) (w : World) (hs : -2000000 ≤ s ∧ s ≤ 2000000) (ht : -2000000 ≤ t ∧ t ≤ 2000000) :
    Calls Yba.prog 15 #[tm s, tm t] w fun e w' => e = .returned (.int .i64 ((s - t) * 1000000000)) ∧ Below w.heap.size w w' := by
  have b1 : bits BinOp.and IntKind.u64 0 0 = 0 := by decide
  have b2 : bits BinOp.and IntKind.u64 0 1073741823 = 0 := by decide
  obtain ⟨s1, s2⟩ := hs
  obtain ⟨t1, t2⟩ := ht
  have hst : t + (s - t) = s := by omega
  go_enter Yba.func15, Yba.ntmps15
  go_wp2
  go_region_held3 (fun w' => w'.cell? ⟨w.heap.size, 0, none⟩ = some (.int .u64 0) ∧ w'.cell? ⟨w.heap.size, 1, none⟩ = some (.int .i64 s) ∧ w'.cell? ⟨w.heap.size, 2, none⟩ = some (.pointer none) ∧ w'.cell? ⟨w.heap.size + 1, 0, none⟩ = some (.int .u64 0) ∧ w'.cell? ⟨w.heap.size + 1, 1, none⟩ = some (.int .i64 t) ∧ w'.cell? ⟨w.heap.size + 1, 2, none⟩ = some (.pointer none)) (simp [go_sem, World.cell?_alloc_past])
    (first
      | (go_at_call 7; refine (add_any t (s - t) _ _ (by omega) (by omega) (by omega)).mono ?_; rintro e w' ⟨rfl, c1, c2, rfl⟩)
      | (go_at_call 19; refine (equal_any _ _ _).mono ?_; rintro e w' ⟨rfl, c3, c4, rfl⟩))
  go_wp2
  go_ret
  refine ⟨rfl, Below.drew ?_⟩
  exact ((((((Below.refl _ _).alloc (Nat.le_refl _) _).alloc (by simp) _).alloc (by simp; omega) _).alloc (by simp; omega) _).alloc (by simp; omega) _).alloc (by simp; omega) _

end Go.Proofs.Ybulkagls
