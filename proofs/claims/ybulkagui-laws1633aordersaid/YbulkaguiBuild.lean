/-
  THE BUILDING of the tree: what lies in memory, step by step.
-/
import Derived.Test.YbulkaguiPre
namespace Go.Proofs.Ybulkagui
open Go.RowKit Go.Lib

theorem info37 : (Yba.prog.info? 37).map (fun i => (i.zero.map (fun z => (z.cells.size, z.cells[6]!, z.cells[7]!)), i.size, decide (i.bytes ≤ 10000))) = some (some (18, .pointer none, .pointer none), 18, true) := by kernel_rfl
theorem info26 : (Yba.prog.info? 26).map (fun i => (i.zero, i.size, i.bytes)) = some (some (.slice none 0 0), 1, 24) := by kernel_rfl

/-- make([]Node, n+1). -/
theorem make_nodes (n : Nat) (hn : n ≤ 2000) : ∃ Z : Array Value, Z.size = 18 ∧ Z[6]! = .pointer none ∧ Z[7]! = .pointer none ∧ ∀ w : World,
    (Instr.makeSlice 24 (.int .i64 ((n : Int) + 1)) (.int .i64 ((n : Int) + 1))).run Yba.prog w = .ok (.slice (some ⟨w.heap.size, 0, none⟩) (n + 1) (n + 1)) (w.alloc (.cells (madeCells Z ((n + 1) * 18)) 37)) := by
  obtain ⟨i, hi, hz⟩ := Option.map_eq_some_iff.1 info37
  simp only [Prod.mk.injEq] at hz
  obtain ⟨hz, hs, hb⟩ := hz
  obtain ⟨z, hz0, hz1⟩ := Option.map_eq_some_iff.1 hz
  simp only [Prod.mk.injEq] at hz1
  obtain ⟨h1, h2, h3⟩ := hz1
  have hb' : i.bytes ≤ 10000 := of_decide_eq_true hb
  refine ⟨z.cells, h1, h2, h3, fun w => ?_⟩
  have hbb : (i.bytes : Int) * ((n : Int) + 1) ≤ 281474976710656 := by
    have : i.bytes * (n + 1) ≤ 10000 * 2001 := Nat.mul_le_mul hb' (by omega)
    have h : ((i.bytes * (n + 1) : Nat) : Int) ≤ 281474976710656 := by omega
    rwa [Int.natCast_mul] at h
  have h := run_make (P := Yba.prog) w 24 37 i z Yba.underlying24 hi hz0 .i64 .i64 ((n : Int) + 1) ((n : Int) + 1) (by omega) (Int.le_refl _) hbb (by omega)
  rw [hs, show ((n : Int) + 1).toNat = n + 1 by omega] at h
  exact h

/-- The tree in memory: the nodes as of step a, the table of children as of step b. -/
structure Built (w0 : World) (B n a b : Nat) (par : Nat → Nat) (kv : Nat → Value) (w : World) : Prop where
  nodes : ∃ F, w.rowIs B 37 ((n + 1) * 18) F ∧ ∀ i, i ≤ n → F (i * 18 + 6) = ptr B (kidsAt par a i).head? ∧ F (i * 18 + 7) = ptr B (nextAt par a i)
  kids : w.rowIs (B + 1) 26 (n + 1) kv
  own : ∀ v, v ≤ n → Ints w (B + 2) (kv v) (kidsAt par b v)
  apart : ∀ u v, u ≤ n → v ≤ n → u ≠ v → ∀ g, (kv u).ownBlock = some g → (kv v).ownBlock ≠ some g
  sz : B + 2 ≤ w.heap.size
  since : w0.Since B w

theorem built_zero (w0 : World) (n : Nat) (par : Nat → Nat) (Z : Array Value) (h1 : Z.size = 18) (h2 : Z[6]! = .pointer none) (h3 : Z[7]! = .pointer none) :
    Built w0 w0.heap.size n 0 0 par (fun _ => .slice none 0 0) ((w0.alloc (.cells (madeCells Z ((n + 1) * 18)) 37)).alloc (.cells (madeCells #[.slice none 0 0] (n + 1)) 26)) := by
  have e : (w0.alloc (.cells (madeCells Z ((n + 1) * 18)) 37)).heap.size = w0.heap.size + 1 := by simp
  have r1 : (w0.alloc (.cells (madeCells Z ((n + 1) * 18)) 37)).rowIs w0.heap.size 37 ((n + 1) * 18) (fun j => Z[j % 18]!) := by
    refine ⟨_, heap_alloc_new w0 _, size_madeCells _ _, fun i hi => ?_⟩
    simp [madeCells, hi, h1]
  have r2 := World.rowIs_made (w0.alloc (.cells (madeCells Z ((n + 1) * 18)) 37)) (.slice none 0 0) (n + 1) 26
  rw [e] at r2
  refine ⟨⟨_, r1.alloc _, fun i _ => ?_⟩, r2, fun v _ => World.ownsRow_nil _ _ _ _, fun u v _ _ _ g hg => (by cases hg), by simp, ?_⟩
  · rw [show (i * 18 + 6) % 18 = 6 by omega, show (i * 18 + 7) % 18 = 7 by omega]
    exact ⟨h2, h3⟩
  · exact ((World.Since.refl _ w0).alloc (Nat.le_refl _) _).alloc (by simp) _

theorem Built.drewN {w0 w : World} {B n a b : Nat} {par : Nat → Nat} {kv : Nat → Value} (h : Built w0 B n a b par kv w) (m : Nat) : Built w0 B n a b par kv (w.drewN m) :=
  ⟨h.nodes, h.kids, h.own, h.apart, h.sz, ⟨h.since.os, h.since.tape, h.since.output, h.since.size, h.since.block⟩⟩

/-- A store into a node. -/
theorem built_store {w0 w : World} {B n a a' b : Nat} {par : Nat → Nat} {kv : Nat → Value} (h : Built w0 B n a b par kv w) (o : Nat) (u : Value)
    (hF : ∀ F : Nat → Value, (∀ i, i ≤ n → F (i * 18 + 6) = ptr B (kidsAt par a i).head? ∧ F (i * 18 + 7) = ptr B (nextAt par a i)) →
      ∀ i, i ≤ n → (if i * 18 + 6 = o then u else F (i * 18 + 6)) = ptr B (kidsAt par a' i).head? ∧ (if i * 18 + 7 = o then u else F (i * 18 + 7)) = ptr B (nextAt par a' i)) :
    Built w0 B n a' b par kv (w.setCell ⟨B, o, none⟩ u) := by
  obtain ⟨F, hr, hf⟩ := h.nodes
  refine ⟨⟨_, hr.set o u, hF F hf⟩, h.kids.setOther (show B + 1 ≠ B by omega) u, fun v hv => ownsRow_setCell_below (h.own v hv) (show B < B + 2 by omega) u, h.apart, by simp [World.setCell]; exact h.sz, h.since.setCell (show B ≤ B from Nat.le_refl _) u⟩

theorem kids_succ (par : Nat → Nat) (m v : Nat) : kidsAt par (m + 1) v = if par (m + 1) = v then kidsAt par m v ++ [m + 1] else kidsAt par m v := rfl

theorem built_first {w0 w : World} {B n m : Nat} {par : Nat → Nat} {kv : Nat → Value} (h : Built w0 B n m m par kv w) (hnil : kidsAt par m (par (m + 1)) = []) :
    Built w0 B n (m + 1) m par kv (w.setCell ⟨B, par (m + 1) * 18 + 6, none⟩ (.pointer (some ⟨B, (m + 1) * 18, none⟩))) := by
  refine built_store h _ _ (fun F hf i hi => ?_)
  have e2 : nextAt par (m + 1) i = nextAt par m i := by rw [nextAt, hnil]; simp
  refine ⟨?_, by rw [if_neg (by omega), e2]; exact (hf i hi).2⟩
  rw [kids_succ]
  by_cases hp : par (m + 1) = i
  · subst hp
    rw [if_pos rfl, if_pos rfl, hnil]
    rfl
  · rw [if_neg (by omega), if_neg hp]
    exact (hf i hi).1

theorem built_next {w0 w : World} {B n m q : Nat} {par : Nat → Nat} {kv : Nat → Value} (h : Built w0 B n m m par kv w) (hq : (kidsAt par m (par (m + 1))).getLast? = some q) :
    Built w0 B n (m + 1) m par kv (w.setCell ⟨B, q * 18 + 7, none⟩ (.pointer (some ⟨B, (m + 1) * 18, none⟩))) := by
  refine built_store h _ _ (fun F hf i hi => ?_)
  constructor
  · rw [if_neg (by omega), kids_succ, (hf i hi).1]
    by_cases hp : par (m + 1) = i
    · subst hp
      rw [if_pos rfl]
      cases hk : kidsAt par m (par (m + 1)) with
      | nil => rw [hk] at hq; simp at hq
      | cons x r => rfl
    · rw [if_neg hp]
  · rw [nextAt, hq]
    by_cases e : i = q
    · subst e
      rw [if_pos rfl, if_pos rfl]
      rfl
    · rw [if_neg (by omega), if_neg (fun h => e (by injection h with h; exact h.symm))]
      exact (hf i hi).2

theorem built_parent {w0 w : World} {B n a b : Nat} {par : Nat → Nat} {kv : Nat → Value} (h : Built w0 B n a b par kv w) (k : Nat) (u : Value) :
    Built w0 B n a b par kv (w.setCell ⟨B, k * 18 + 5, none⟩ u) := by
  refine built_store h _ _ (fun F hf i hi => ?_)
  rw [if_neg (by omega), if_neg (by omega)]
  exact hf i hi

theorem built_app {w0 w w1 : World} {B n m p g cap : Nat} {par : Nat → Nat} {kv : Nat → Value} (h : Built w0 B n (m + 1) m par kv w) (hp : par (m + 1) = p) (hpn : p ≤ n)
    (own1 : w1.ownsRow (B + 2) 3 1 (.slice (some ⟨g, 0, none⟩) ((kidsAt par m p).length + 1) cap) ((kidsAt par m p).length + 1) ((kidsAt par m p).map iv ++ [iv (m + 1)])) (gr : w.grownBy w1 (kv p).ownBlock) (al : (kv p).ownBlock = some g ∨ w.heap.size ≤ g) :
    Built w0 B n (m + 1) (m + 1) par (fun j => if j = p then .slice (some ⟨g, 0, none⟩) ((kidsAt par m p).length + 1) cap else kv j) (w1.setCell ⟨B + 1, p, none⟩ (.slice (some ⟨g, 0, none⟩) ((kidsAt par m p).length + 1) cap)) := by
  obtain ⟨F, hr, hf⟩ := h.nodes
  have sz1 : B + 2 ≤ w1.heap.size := Nat.le_trans h.sz gr.size
  have hr1 := row_kept hr (h.own p hpn) (by decide) gr
  have hk1 := row_kept h.kids (h.own p hpn) (by decide) gr
  have hne : ∀ v, v ≤ n → v ≠ p → (kv v).ownBlock ≠ some g := by
    intro v hv hvp e
    rcases al with al | al
    · exact h.apart p v hpn hv (fun e => hvp e.symm) g al e
    · have := ((h.own v hv).lt g e).2
      omega
  refine ⟨⟨F, hr1.setOther (show B ≠ B + 1 by omega) _, hf⟩, hk1.set p _, fun v hv => ?_, fun u v hu hv huv g' hg' => ?_, by simp [World.setCell]; exact sz1, ?_⟩
  · refine ownsRow_setCell_below (a := ⟨B + 1, p, none⟩) ?_ (show B + 1 < B + 2 by omega) _
    rw [kids_succ, hp]
    by_cases e : v = p
    · subst e
      rw [if_pos rfl, if_pos rfl]
      exact ints_app own1
    · rw [if_neg e, if_neg (fun h => e h.symm)]
      exact ints_kept (h.own v hv) gr (fun q hq hq2 => h.apart v p hv hpn e q hq hq2)
  · have hg'' : (if u = p then Value.slice (some ⟨g, 0, none⟩) ((kidsAt par m p).length + 1) cap else kv u).ownBlock = some g' := hg'
    show (if v = p then Value.slice (some ⟨g, 0, none⟩) ((kidsAt par m p).length + 1) cap else kv v).ownBlock ≠ some g'
    by_cases e : u = p
    · rw [if_pos e] at hg''
      cases hg''
      rw [if_neg (fun h => huv (e.trans h.symm))]
      exact hne v hv (fun h => huv (e.trans h.symm))
    · rw [if_neg e] at hg''
      by_cases e2 : v = p
      · rw [if_pos e2]
        intro h2
        cases h2
        exact hne u hu e hg''
      · rw [if_neg e2]
        exact h.apart u v hu hv huv g' hg''
  · have s1 := h.since.grown gr (by have := h.sz; omega) (fun k hk => by have := ((h.own p hpn).lt k hk).1; omega)
    exact s1.setCell (show B ≤ B + 1 by omega) _

/-- The table of children, for the walk of pre. -/
theorem built_kids {w0 w : World} {B n a b : Nat} {par : Nat → Nat} {kv : Nat → Value} (h : Built w0 B n a b par kv w) : KidsM w w.heap.size (B + 1) n (kidsAt par b) := by
  refine ⟨by have := h.sz; omega, fun v hv => ?_⟩
  have hc : w.cell? ⟨B + 1, v, none⟩ = some (kv v) := h.kids.cell (by omega)
  have ho := h.own v hv
  by_cases hn : kidsAt par b v = []
  · rcases ho.2 with ⟨hv', h0⟩ | ⟨g, cap, cur, hv', _⟩
    · exact ⟨none, 0, by rw [hc, hv', hn]; rfl, fun h => absurd hn h⟩
    · exact ⟨_, cap, by rw [hc, hv'], fun h => absurd hn h⟩
  · obtain ⟨g, cap, hv', _, hlt⟩ := ho.form (by cases hk : kidsAt par b v with
      | nil => exact absurd hk hn
      | cons x r => simp)
    refine ⟨_, cap, by rw [hc, hv'], fun _ => ⟨g, hlt, rfl, fun j c hj => ?_⟩⟩
    rw [hv'] at ho
    have hjl : j < (kidsAt par b v).length := by
      rcases Nat.lt_or_ge j (kidsAt par b v).length with h | h
      · exact h
      · rw [List.getElem?_eq_none h] at hj; cases hj
    have := World.ownsRow.cellAt ho j (by simpa using hjl)
    rw [this]
    simp [hj]

theorem built_links {w0 w : World} {B n a b : Nat} {par : Nat → Nat} {kv : Nat → Value} (h : Built w0 B n a b par kv w) : Links w B n (fun v => (kidsAt par a v).head?) (nextAt par a) := by
  obtain ⟨F, hr, hf⟩ := h.nodes
  intro i hi
  rw [← (hf i hi).1, ← (hf i hi).2]
  exact ⟨hr.cell (by omega), hr.cell (by omega)⟩

end Go.Proofs.Ybulkagui
