/-
  WALKS: (*entry).status, (*entry).seen, and the closure LawS1617CLeast$1.
-/
import Derived.Test.YbulkaglsTime
namespace Go.Proofs.Ybulkagls
open Go.RowKit

/-- What status answers: f failures, last answer at minute a, last query at minute q, now minute n. -/
def stOf (f a q n : Int) : Int := if 2 ≤ f then 2 else if n - a < 15 ∨ n - q < 15 then 0 else 1

/-- The cells of an entry that the walks read: at block E, offset o: answered at minute a, queried at minute q, failures f, valid v. -/
structure Entry (w : World) (E o : Nat) (a q f : Int) (v : Bool) : Prop where
  c24 : w.cell? ⟨E, o + 24, none⟩ = some (.int .u64 0)
  c25 : w.cell? ⟨E, o + 25, none⟩ = some (.int .i64 (a * 60))
  c26 : w.cell? ⟨E, o + 26, none⟩ = some (.pointer none)
  c27 : w.cell? ⟨E, o + 27, none⟩ = some (.int .u64 0)
  c28 : w.cell? ⟨E, o + 28, none⟩ = some (.int .i64 (q * 60))
  c29 : w.cell? ⟨E, o + 29, none⟩ = some (.pointer none)
  c30 : w.cell? ⟨E, o + 30, none⟩ = some (.int .i64 f)
  c31 : w.cell? ⟨E, o + 31, none⟩ = some (.bool v)

/-- A minute of an int16. -/
def Min (m : Int) : Prop := -32768 ≤ m ∧ m ≤ 32767

theorem status_bad (E o : Nat) (a q f n : Int) (v : Bool) (w : World) (h : Entry w E o a q f v) (hf : 2 ≤ f) :
    Calls Yba.prog 8 #[.pointer (some ⟨E, o, none⟩), tm (n * 60)] w fun e w' => e = .returned (.int .i64 2) ∧ Below w.heap.size w w' := by
  have h30 := h.c30
  have hE : E < w.heap.size := World.block_lt_of_cell? w ⟨E, o + 30, none⟩ h30
  clear h
  go_enter Yba.func8, Yba.ntmps8
  go_wp2
  go_ret
  exact ⟨rfl, (Below.refl _ _).alloc (Nat.le_refl _) _⟩

theorem status_good1 (E o : Nat) (a q f n : Int) (v : Bool) (w : World) (h : Entry w E o a q f v) (hf : ¬ 2 ≤ f) (ha : Min a) (hn : Min n) (hna : n - a < 15) :
    Calls Yba.prog 8 #[.pointer (some ⟨E, o, none⟩), tm (n * 60)] w fun e w' => e = .returned (.int .i64 0) ∧ Below w.heap.size w w' := by
  obtain ⟨h24, h25, h26, h27, h28, h29, h30, h31⟩ := h
  obtain ⟨a1, a2⟩ := ha
  obtain ⟨n1, n2⟩ := hn
  have hE : E < w.heap.size := World.block_lt_of_cell? w ⟨E, o + 30, none⟩ h30
  have hd : (n * 60 - a * 60) * 1000000000 < 900000000000 := by omega
  go_enter Yba.func8, Yba.ntmps8
  go_wp2
  go_region_held3 (fun w' => w'.cell? ⟨w.heap.size, 0, none⟩ = some (.int .u64 0) ∧ w'.cell? ⟨w.heap.size, 1, none⟩ = some (.int .i64 (n * 60)) ∧ w'.cell? ⟨w.heap.size, 2, none⟩ = some (.pointer none) ∧ w'.cell? ⟨E, o + 24, none⟩ = some (.int .u64 0) ∧ w'.cell? ⟨E, o + 25, none⟩ = some (.int .i64 (a * 60)) ∧ w'.cell? ⟨E, o + 26, none⟩ = some (.pointer none) ∧ w'.cell? ⟨E, o + 27, none⟩ = some (.int .u64 0) ∧ w'.cell? ⟨E, o + 28, none⟩ = some (.int .i64 (q * 60)) ∧ w'.cell? ⟨E, o + 29, none⟩ = some (.pointer none)) (simp [go_sem, World.cell?_alloc_past, *])
    (first
      | (go_at_call 15; refine (sub_any _ _ _ (by omega) (by omega)).mono ?_; rintro e w1 ⟨rfl, hb⟩; obtain ⟨hc, hf2⟩ := bcell hb))
  go_wp2
  go_ret
  exact ⟨rfl, (((Below.refl _ _).alloc (Nat.le_refl _) _).drew).trans (hb.mono (by simp))⟩

theorem status_good2 (E o : Nat) (a q f n : Int) (v : Bool) (w : World) (h : Entry w E o a q f v) (hf : ¬ 2 ≤ f) (ha : Min a) (hq : Min q) (hn : Min n) (hna : ¬ n - a < 15) (hnq : n - q < 15) :
    Calls Yba.prog 8 #[.pointer (some ⟨E, o, none⟩), tm (n * 60)] w fun e w' => e = .returned (.int .i64 0) ∧ Below w.heap.size w w' := by
  obtain ⟨h24, h25, h26, h27, h28, h29, h30, h31⟩ := h
  obtain ⟨a1, a2⟩ := ha
  obtain ⟨q1, q2⟩ := hq
  obtain ⟨n1, n2⟩ := hn
  have hE : E < w.heap.size := World.block_lt_of_cell? w ⟨E, o + 30, none⟩ h30
  have hd : ¬ (n * 60 - a * 60) * 1000000000 < 900000000000 := by omega
  have hd2 : (n * 60 - q * 60) * 1000000000 < 900000000000 := by omega
  go_enter Yba.func8, Yba.ntmps8
  go_wp2
  go_region_held3 (fun w' => w'.cell? ⟨w.heap.size, 0, none⟩ = some (.int .u64 0) ∧ w'.cell? ⟨w.heap.size, 1, none⟩ = some (.int .i64 (n * 60)) ∧ w'.cell? ⟨w.heap.size, 2, none⟩ = some (.pointer none) ∧ w'.cell? ⟨E, o + 24, none⟩ = some (.int .u64 0) ∧ w'.cell? ⟨E, o + 25, none⟩ = some (.int .i64 (a * 60)) ∧ w'.cell? ⟨E, o + 26, none⟩ = some (.pointer none) ∧ w'.cell? ⟨E, o + 27, none⟩ = some (.int .u64 0) ∧ w'.cell? ⟨E, o + 28, none⟩ = some (.int .i64 (q * 60)) ∧ w'.cell? ⟨E, o + 29, none⟩ = some (.pointer none)) (simp [go_sem, World.cell?_alloc_past, *])
    (first
      | (go_at_call 15; refine (sub_any _ _ _ (by omega) (by omega)).mono ?_; rintro e w1 ⟨rfl, hb⟩; obtain ⟨hc, hf2⟩ := bcell hb))
  obtain ⟨k0, k1, k2, k3, k4, k5, k6, k7, k8⟩ := ‹_ ∧ _›
  have hz : w.heap.size < w1.heap.size := by have := hb.size; simp at this; omega
  have hE1 : E < w1.heap.size := by omega
  have HB : Hid (Below w.heap.size w w1) := (((Below.refl _ _).alloc (Nat.le_refl _) _).drew).trans (hb.mono (by simp))
  clear hb hc hf2
  go_wp2
  go_region_held3 (fun w' => w'.cell? ⟨w.heap.size, 0, none⟩ = some (.int .u64 0) ∧ w'.cell? ⟨w.heap.size, 1, none⟩ = some (.int .i64 (n * 60)) ∧ w'.cell? ⟨w.heap.size, 2, none⟩ = some (.pointer none) ∧ w'.cell? ⟨E, o + 24, none⟩ = some (.int .u64 0) ∧ w'.cell? ⟨E, o + 25, none⟩ = some (.int .i64 (a * 60)) ∧ w'.cell? ⟨E, o + 26, none⟩ = some (.pointer none) ∧ w'.cell? ⟨E, o + 27, none⟩ = some (.int .u64 0) ∧ w'.cell? ⟨E, o + 28, none⟩ = some (.int .i64 (q * 60)) ∧ w'.cell? ⟨E, o + 29, none⟩ = some (.pointer none)) (simp [go_sem, *])
    (first
      | (go_at_call 15; refine (sub_any _ _ _ (by omega) (by omega)).mono ?_; rintro e w2 ⟨rfl, hb2⟩; obtain ⟨hc, hf2⟩ := bcell_drew hb2))
  go_wp2
  go_ret
  exact ⟨rfl, HB.out.trans (Below.trans ((Below.refl _ _).drew) (hb2.mono (by simp; omega)))⟩

theorem status_quest (E o : Nat) (a q f n : Int) (v : Bool) (w : World) (h : Entry w E o a q f v) (hf : ¬ 2 ≤ f) (ha : Min a) (hq : Min q) (hn : Min n) (hna : ¬ n - a < 15) (hnq : ¬ n - q < 15) :
    Calls Yba.prog 8 #[.pointer (some ⟨E, o, none⟩), tm (n * 60)] w fun e w' => e = .returned (.int .i64 1) ∧ Below w.heap.size w w' := by
  obtain ⟨h24, h25, h26, h27, h28, h29, h30, h31⟩ := h
  obtain ⟨a1, a2⟩ := ha
  obtain ⟨q1, q2⟩ := hq
  obtain ⟨n1, n2⟩ := hn
  have hE : E < w.heap.size := World.block_lt_of_cell? w ⟨E, o + 30, none⟩ h30
  have hd : ¬ (n * 60 - a * 60) * 1000000000 < 900000000000 := by omega
  have hd2 : ¬ (n * 60 - q * 60) * 1000000000 < 900000000000 := by omega
  go_enter Yba.func8, Yba.ntmps8
  go_wp2
  go_region_held3 (fun w' => w'.cell? ⟨w.heap.size, 0, none⟩ = some (.int .u64 0) ∧ w'.cell? ⟨w.heap.size, 1, none⟩ = some (.int .i64 (n * 60)) ∧ w'.cell? ⟨w.heap.size, 2, none⟩ = some (.pointer none) ∧ w'.cell? ⟨E, o + 24, none⟩ = some (.int .u64 0) ∧ w'.cell? ⟨E, o + 25, none⟩ = some (.int .i64 (a * 60)) ∧ w'.cell? ⟨E, o + 26, none⟩ = some (.pointer none) ∧ w'.cell? ⟨E, o + 27, none⟩ = some (.int .u64 0) ∧ w'.cell? ⟨E, o + 28, none⟩ = some (.int .i64 (q * 60)) ∧ w'.cell? ⟨E, o + 29, none⟩ = some (.pointer none)) (simp [go_sem, World.cell?_alloc_past, *])
    (first
      | (go_at_call 15; refine (sub_any _ _ _ (by omega) (by omega)).mono ?_; rintro e w1 ⟨rfl, hb⟩; obtain ⟨hc, hf2⟩ := bcell hb))
  obtain ⟨k0, k1, k2, k3, k4, k5, k6, k7, k8⟩ := ‹_ ∧ _›
  have hz : w.heap.size < w1.heap.size := by have := hb.size; simp at this; omega
  have hE1 : E < w1.heap.size := by omega
  have HB : Hid (Below w.heap.size w w1) := (((Below.refl _ _).alloc (Nat.le_refl _) _).drew).trans (hb.mono (by simp))
  clear hb hc hf2
  go_wp2
  go_region_held3 (fun w' => w'.cell? ⟨w.heap.size, 0, none⟩ = some (.int .u64 0) ∧ w'.cell? ⟨w.heap.size, 1, none⟩ = some (.int .i64 (n * 60)) ∧ w'.cell? ⟨w.heap.size, 2, none⟩ = some (.pointer none) ∧ w'.cell? ⟨E, o + 24, none⟩ = some (.int .u64 0) ∧ w'.cell? ⟨E, o + 25, none⟩ = some (.int .i64 (a * 60)) ∧ w'.cell? ⟨E, o + 26, none⟩ = some (.pointer none) ∧ w'.cell? ⟨E, o + 27, none⟩ = some (.int .u64 0) ∧ w'.cell? ⟨E, o + 28, none⟩ = some (.int .i64 (q * 60)) ∧ w'.cell? ⟨E, o + 29, none⟩ = some (.pointer none)) (simp [go_sem, *])
    (first
      | (go_at_call 15; refine (sub_any _ _ _ (by omega) (by omega)).mono ?_; rintro e w2 ⟨rfl, hb2⟩; obtain ⟨hc, hf2⟩ := bcell_drew hb2))
  go_wp2
  go_ret
  exact ⟨rfl, HB.out.trans (Below.trans ((Below.refl _ _).drew) (hb2.mono (by simp; omega)))⟩

/-- (*entry).status -/
theorem status_any (E o : Nat) (a q f n : Int) (v : Bool) (w : World) (h : Entry w E o a q f v) (ha : Min a) (hq : Min q) (hn : Min n) :
    Calls Yba.prog 8 #[.pointer (some ⟨E, o, none⟩), tm (n * 60)] w fun e w' => e = .returned (.int .i64 (stOf f a q n)) ∧ Below w.heap.size w w' := by
  unfold stOf
  by_cases hf : 2 ≤ f
  · rw [if_pos hf]; exact status_bad E o a q f n v w h hf
  · rw [if_neg hf]
    by_cases h1 : n - a < 15
    · rw [if_pos (Or.inl h1)]; exact status_good1 E o a q f n v w h hf ha hn h1
    · by_cases h2 : n - q < 15
      · rw [if_pos (Or.inr h2)]; exact status_good2 E o a q f n v w h hf ha hq hn h1 h2
      · rw [if_neg (by omega)]; exact status_quest E o a q f n v w h hf ha hq hn h1 h2

/-- (*entry).seen -/
theorem seen_any (E o : Nat) (a q f : Int) (v : Bool) (w : World) (h : Entry w E o a q f v) :
    Calls Yba.prog 9 #[.pointer (some ⟨E, o, none⟩)] w fun e w' => e = .returned (tm ((if a < q then q else a) * 60)) ∧ Below w.heap.size w w' := by
  obtain ⟨h24, h25, h26, h27, h28, h29, h30, h31⟩ := h
  have hE : E < w.heap.size := World.block_lt_of_cell? w ⟨E, o + 30, none⟩ h30
  have hE1 : E < w.heap.size + 1 := by omega
  have hE2 : E < w.heap.size + 1 + 1 := by omega
  by_cases hlt : a < q
  · rw [if_pos hlt]
    have hd : a * 60 < q * 60 := by omega
    go_enter Yba.func9, Yba.ntmps9
    go_wp2
    go_region_held3 (fun w' => w'.cell? ⟨E, o + 24, none⟩ = some (.int .u64 0) ∧ w'.cell? ⟨E, o + 25, none⟩ = some (.int .i64 (a * 60)) ∧ w'.cell? ⟨E, o + 26, none⟩ = some (.pointer none) ∧ w'.cell? ⟨E, o + 27, none⟩ = some (.int .u64 0) ∧ w'.cell? ⟨E, o + 28, none⟩ = some (.int .i64 (q * 60)) ∧ w'.cell? ⟨E, o + 29, none⟩ = some (.pointer none)) (simp [go_sem, World.cell?_alloc_past, *])
      (first
        | (go_at_call 16; refine (after_any _ _ _).mono ?_; rintro e w1 ⟨rfl, c1, c2, rfl⟩))
    go_wp2
    exact bodyPost_ret (v := tm (q * 60)) (by simp [results, Yba.results9, go_sem]) rfl ⟨rfl, ((((Below.refl _ _).alloc (Nat.le_refl _) _).alloc (by simp) _).alloc (by simp; omega) _).drew⟩
  · rw [if_neg hlt]
    have hd : ¬ a * 60 < q * 60 := by omega
    go_enter Yba.func9, Yba.ntmps9
    go_wp2
    go_region_held3 (fun w' => w'.cell? ⟨E, o + 24, none⟩ = some (.int .u64 0) ∧ w'.cell? ⟨E, o + 25, none⟩ = some (.int .i64 (a * 60)) ∧ w'.cell? ⟨E, o + 26, none⟩ = some (.pointer none) ∧ w'.cell? ⟨E, o + 27, none⟩ = some (.int .u64 0) ∧ w'.cell? ⟨E, o + 28, none⟩ = some (.int .i64 (q * 60)) ∧ w'.cell? ⟨E, o + 29, none⟩ = some (.pointer none)) (simp [go_sem, World.cell?_alloc_past, *])
      (first
        | (go_at_call 16; refine (after_any _ _ _).mono ?_; rintro e w1 ⟨rfl, c1, c2, rfl⟩))
    go_wp2
    exact bodyPost_ret (v := tm (a * 60)) (by simp [results, Yba.results9, go_sem]) rfl ⟨rfl, ((((Below.refl _ _).alloc (Nat.le_refl _) _).alloc (by simp) _).alloc (by simp; omega) _).drew⟩

/-- The closure that LawS1617CLeast hands over: it counts its calls. -/
theorem skip_any (cs : Array Value) (C D : Nat) (n : Int) (v sv : Bool) (w : World) (hv : cs[31]? = some (.bool v)) (hC : w.cell? ⟨C, 0, none⟩ = some (.int .i64 n)) (hCf : w.frozen? ⟨C, 0, none⟩ = false) (hn : 0 ≤ n ∧ n ≤ 100000) (hD : w.cell? ⟨D, 0, none⟩ = some (.bool sv)) (hCD : ¬ D = C) :
    Calls Yba.prog 5 #[.agg cs, .pointer (some ⟨C, 0, none⟩), .pointer (some ⟨D, 0, none⟩)] w fun e w' => e = .returned (.bool (v == sv)) ∧ w' = (w.setCell ⟨C, 0, none⟩ (.int .i64 (n + 1))).alloc (.cells cs 51) := by
  obtain ⟨n1, n2⟩ := hn
  have hCl : C < w.heap.size := World.block_lt_of_cell? w ⟨C, 0, none⟩ hC
  have hDl : D < w.heap.size := World.block_lt_of_cell? w ⟨D, 0, none⟩ hD
  have hCn : ¬ w.heap.size = C := by omega
  go_enter Yba.func5, Yba.ntmps5
  go_wp2
  go_ret
  exact ⟨rfl, rfl⟩

end Go.Proofs.Ybulkagls
