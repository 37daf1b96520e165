/-
  WALKS: zzs1617aval: it appends the bytes of one value.
-/
import Derived.Test.YbulkaglsFmtStr
namespace Go.Proofs.YbulkaglsFmt
open Go.RowKit

/-- A byte as a value. -/
abbrev bv (n : Int) : Value := .int .u8 n

/-- The bytes of the value that x stands for. -/
def valBytes (x : Int) : List Int :=
  if x % 4 = 0 then [105, 48 + x / 4 % 10, 101] else if x % 4 = 1 then [49, 58, 120] else if x % 4 = 2 then [108, 101] else [100, 101]

theorem info5 : (Ybaf.prog.info? 5).map (fun i => (i.zero, i.size, i.bytes)) = some (some (.int .u8 0), 1, 1) := by kernel_rfl

/-- The slice v owns the bytes xs. -/
abbrev Owns (w : World) (base : Nat) (v : Value) (xs : List Int) : Prop := w.ownsRow base 5 1 v xs.length (xs.map bv)

/-- What an append onto such a slice leaves. -/
def Grew (w : World) (base : Nat) (v : Value) (xs : List Int) (e : Ending) (w' : World) : Prop :=
  ∃ g cap, e = .returned (.slice (some ⟨g, 0, none⟩) xs.length cap) ∧ Owns w' base (.slice (some ⟨g, 0, none⟩) xs.length cap) xs ∧ w.grownBy w' v.ownBlock ∧ (v.ownBlock = some g ∨ w.heap.size ≤ g) ∧ base ≤ g

/-- append of fresh bytes onto such a slice, at a plain region's list. -/
theorem app_bytes {ops : Array Oper} {rest : List Oper} {o : Oper} {a : Act} {w : World} {Q : Exit → Act → World → Prop} (hgd : o.guard = none) (s x : Operand) (ho : o.op = .call { callee := .builtin .append, args := #[s, x], argTypes := #[22, 22] })
    (base : Nat) (v : Value) (xs ys : List Int) (m : Nat) (hs : a.eval s = v) (hx : a.eval x = .slice (some ⟨w.heap.size, 0, none⟩) m m) (hm : ys.length = m) (hm0 : 0 < m) (hown : Owns w base v xs) (hb : base ≤ w.heap.size) (hl : xs.length ≤ 1000000) (hl2 : m ≤ 1000000)
    (h : ∀ g cap w', Owns w' base (.slice (some ⟨g, 0, none⟩) (xs ++ ys).length cap) (xs ++ ys) → w.grownBy w' v.ownBlock → (v.ownBlock = some g ∨ w.heap.size ≤ g) → base ≤ g → g < w'.heap.size → wpList Ybaf.prog ops Q rest (a.put o.dst (.slice (some ⟨g, 0, none⟩) (xs.length + m) cap)) w') :
    wpList Ybaf.prog ops Q (o :: rest) a (w.alloc (.cells (ys.map bv).toArray 5)) := by
  obtain ⟨i0, hi, hz0, hz1, hz2⟩ := info_parts info5
  refine wpList_append_lies _ hgd s x 22 ho base 5 i0 (.int .u8 0) 1 1 Ybaf.underlying22 hi hz0 hz1 hz2 rfl (by decide) v xs.length (xs.map bv) hs (hown.alloc _) ⟨w.heap.size, 0, none⟩ m m (ys.map bv) hx (by simp [hm]) ?_ ?_ hm0 ?_ ?_ ?_ (w.heap.size + 1) ?_ ?_
  · exact World.news_of_block (heap_alloc_new w _)
  · intro u hu
    obtain ⟨y, _, rfl⟩ := List.mem_map.1 hu
    rfl
  · unfold maxLen; omega
  · omega
  · simp; omega
  · simp
  · intro g cap w' h1 h2 h3 h4
    have hlen : (xs ++ ys).length = xs.length + m := by simp [hm]
    refine h g cap w' ?_ (grown_trans (World.grownBy_alloc w _ _) h2) ?_ ?_ h4
    · show w'.ownsRow base 5 1 (.slice (some ⟨g, 0, none⟩) (xs ++ ys).length cap) (xs ++ ys).length ((xs ++ ys).map bv)
      rw [hlen, List.map_append]
      exact h1
    · rcases h3 with h3 | h3
      · exact Or.inl h3
      · exact Or.inr (by omega)
    · exact (h1.lt g rfl).1

set_option maxHeartbeats 1000000 in
theorem val_int (base : Nat) (v : Value) (xs : List Int) (x : Int) (w : World) (hown : Owns w base v xs) (hb : base ≤ w.heap.size) (hl : xs.length ≤ 100000) (hx0 : 0 ≤ x) (hx1 : x ≤ 255) (h4 : x % 4 = 0) :
    Calls Ybaf.prog 12 #[v, .int .u8 x] w (Grew w base v (xs ++ [105, 48 + x / 4 % 10, 101])) := by
  go_enter Ybaf.func12, Ybaf.ntmps12
  go_wp2_with (at_builtin; refine app_bytes rfl _ _ rfl base v xs [105, 48 + x / 4 % 10, 101] 3 rfl rfl rfl (by decide) hown hb (by omega) (by decide) ?_; intro g cap w1 o1 g1 a1 b1 l1)
  go_ret
  exact ⟨g, cap, by simp, o1, g1, a1, b1⟩

set_option maxHeartbeats 1000000 in
theorem val_str (base : Nat) (v : Value) (xs : List Int) (x : Int) (w : World) (hown : Owns w base v xs) (hb : base ≤ w.heap.size) (hl : xs.length ≤ 100000) (hx0 : 0 ≤ x) (hx1 : x ≤ 255) (h4 : x % 4 = 1) :
    Calls Ybaf.prog 12 #[v, .int .u8 x] w (Grew w base v (xs ++ [49, 58, 120])) := by
  go_enter Ybaf.func12, Ybaf.ntmps12
  go_wp2_with (at_builtin; refine app_bytes rfl _ _ rfl base v xs [49, 58, 120] 3 rfl rfl rfl (by decide) hown hb (by omega) (by decide) ?_; intro g cap w1 o1 g1 a1 b1 l1)
  go_ret
  exact ⟨g, cap, by simp, o1, g1, a1, b1⟩

set_option maxHeartbeats 1000000 in
theorem val_list (base : Nat) (v : Value) (xs : List Int) (x : Int) (w : World) (hown : Owns w base v xs) (hb : base ≤ w.heap.size) (hl : xs.length ≤ 100000) (hx0 : 0 ≤ x) (hx1 : x ≤ 255) (h4 : x % 4 = 2) :
    Calls Ybaf.prog 12 #[v, .int .u8 x] w (Grew w base v (xs ++ [108, 101])) := by
  go_enter Ybaf.func12, Ybaf.ntmps12
  go_wp2_with (at_builtin; refine app_bytes rfl _ _ rfl base v xs [108, 101] 2 rfl rfl rfl (by decide) hown hb (by omega) (by decide) ?_; intro g cap w1 o1 g1 a1 b1 l1)
  go_ret
  exact ⟨g, cap, by simp, o1, g1, a1, b1⟩

set_option maxHeartbeats 1000000 in
theorem val_dict (base : Nat) (v : Value) (xs : List Int) (x : Int) (w : World) (hown : Owns w base v xs) (hb : base ≤ w.heap.size) (hl : xs.length ≤ 100000) (hx0 : 0 ≤ x) (hx1 : x ≤ 255) (h4 : x % 4 = 3) :
    Calls Ybaf.prog 12 #[v, .int .u8 x] w (Grew w base v (xs ++ [100, 101])) := by
  go_enter Ybaf.func12, Ybaf.ntmps12
  go_wp2_with (at_builtin; refine app_bytes rfl _ _ rfl base v xs [100, 101] 2 rfl rfl rfl (by decide) hown hb (by omega) (by decide) ?_; intro g cap w1 o1 g1 a1 b1 l1)
  go_ret
  exact ⟨g, cap, by simp, o1, g1, a1, b1⟩

/-- zzs1617aval -/
theorem val_any (base : Nat) (v : Value) (xs : List Int) (x : Int) (w : World) (hown : Owns w base v xs) (hb : base ≤ w.heap.size) (hl : xs.length ≤ 100000) (hx0 : 0 ≤ x) (hx1 : x ≤ 255) :
    Calls Ybaf.prog 12 #[v, .int .u8 x] w (Grew w base v (xs ++ valBytes x)) := by
  unfold valBytes
  by_cases h0 : x % 4 = 0
  · rw [if_pos h0]; exact val_int base v xs x w hown hb hl hx0 hx1 h0
  · rw [if_neg h0]
    by_cases h1 : x % 4 = 1
    · rw [if_pos h1]; exact val_str base v xs x w hown hb hl hx0 hx1 h1
    · rw [if_neg h1]
      by_cases h2 : x % 4 = 2
      · rw [if_pos h2]; exact val_list base v xs x w hown hb hl hx0 hx1 h2
      · rw [if_neg h2]; exact val_dict base v xs x w hown hb hl hx0 hx1 (by omega)

end Go.Proofs.YbulkaglsFmt
