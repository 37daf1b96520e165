/-
  WALKS: keyStack.push.
-/
import Derived.Test.YbulkaglsFmtNext2
import Derived.Lib.OwnKind
import Derived.Deep.RegionLaw
namespace Go.Proofs.YbulkaglsFmt
open Go.RowKit Go.Lib

set_option maxRecDepth 100000 in
set_option maxHeartbeats 4000000 in
theorem push_near (S kl start : Nat) (f : Nat → Value) (w : World) (hS : SC w S f) (hk : f 235 = .int .i64 kl) (hk1 : kl < 32) (hs : start ≤ 100000) :
    Calls Ybaf.prog 22 #[.pointer (some ⟨S, 202, none⟩), .int .i64 start] w fun e w' => e = .returned (.tuple #[]) ∧ Up w S w' (upd (upd f (202 + kl) (.int .i32 start)) 235 (.int .i64 ((kl + 1 : Nat) : Int))) := by
  have c235 : w.cell? ⟨S, 235, none⟩ = some (.int .i64 kl) := by rw [hS.cell (by decide), hk]
  have cn : w.cell? ⟨S, 202 + kl, none⟩ = some (f (202 + kl)) := hS.cell (by omega)
  have z : ∀ i, w.frozen? ⟨S, i, none⟩ = false := fun i => hS.frozen i
  have i0 : (0 : Int) ≤ (kl : Int) := by omega
  have i1 : (kl : Int) < 32 := by omega
  have i2 : (0 : Int) ≤ (start : Int) := by omega
  have i3 : (start : Int) ≤ 100000 := by omega
  have i4 : ¬ 202 + kl = 235 := by omega
  go_enter Ybaf.func22, Ybaf.ntmps22
  go_wp2_with fail
  go_region
  all_goals go_wp2_with fail
  go_end0
  exact ⟨rfl, up_congr (up_set (up_set (up_drew (up_refl hS)) (202 + kl) _) 235 _) (by rw [show ((kl + 1 : Nat) : Int) = (kl : Int) + 1 by omega])⟩

theorem hidp {p : Prop} (h : p) : Hid p := h
theorem info21 : (Ybaf.prog.info? 21).map (fun i => (i.zero, i.size, i.bytes)) = some (some (.int .i32 0), 1, 4) := by kernel_rfl

/-- Below bF nothing has changed but S. -/
structure UpF (bF S : Nat) (w w' : World) : Prop where
  os : w'.os = w.os
  tape : w'.tape = w.tape
  output : w'.output = w.output
  size : w.heap.size ≤ w'.heap.size
  block : ∀ i, i < bF → i ≠ S → w'.heap[i]? = w.heap[i]?
theorem UpF.refl (bF S : Nat) (w : World) : UpF bF S w w := ⟨rfl, rfl, rfl, Nat.le_refl _, fun _ _ _ => rfl⟩
theorem UpF.trans {bF S : Nat} {w w1 w2 : World} (h : UpF bF S w w1) (k : UpF bF S w1 w2) : UpF bF S w w2 :=
  ⟨k.os.trans h.os, k.tape.trans h.tape, k.output.trans h.output, Nat.le_trans h.size k.size, fun i a b => (k.block i a b).trans (h.block i a b)⟩
theorem UpF.grown {bF S : Nat} {w w1 w2 : World} {row : Option Nat} (h : UpF bF S w w1) (g : w1.grownBy w2 row) (hb : bF ≤ w1.heap.size) (hr : ∀ k, row = some k → bF ≤ k ∨ k = S) : UpF bF S w w2 :=
  h.trans ⟨g.os, g.tape, g.output, g.size, fun i a b => g.block i (by omega) (fun e => by rcases hr i e.symm with h | h <;> omega)⟩
theorem UpF.drew {bF S : Nat} {w w1 : World} (h : UpF bF S w w1) : UpF bF S w w1.drew := ⟨h.os, h.tape, h.output, h.size, h.block⟩
theorem UpF.set {bF S : Nat} {w w1 : World} (h : UpF bF S w w1) (hb : bF ≤ w1.heap.size) (o : Nat) (v : Value) : UpF bF S w (w1.setCell ⟨S, o, none⟩ v) :=
  h.grown (grown_set (World.grownBy.refl _ _) o v) hb (fun k hk => by cases hk; exact Or.inr rfl)
theorem UpF.of {bF S : Nat} {w w1 : World} (g : w.grownBy w1 (some S)) (hb : bF ≤ w.heap.size) : UpF bF S w w1 :=
  (UpF.refl bF S w).grown g hb (fun k hk => by cases hk; exact Or.inr rfl)

theorem row_ne {w : World} {b N base n : Nat} {t e : TypeId} {f : Nat → Value} {v : Value} {xs : List Value} (hr : w.rowIs b t N f) (ho : w.ownsRow base e 1 v n xs) (hne : t ≠ e) : some b ≠ v.ownBlock := by
  intro h
  obtain ⟨c, fz, hc⟩ := ownsRow_kind ho b h.symm
  obtain ⟨c', hc', _⟩ := hr
  rw [hc'] at hc
  injection hc with hc
  injection hc with _ h2 _
  exact hne h2

theorem row_kept {w w1 : World} {b N base n : Nat} {t e : TypeId} {f : Nat → Value} {v : Value} {xs : List Value} (hr : w.rowIs b t N f) (ho : w.ownsRow base e 1 v n xs) (hne : t ≠ e) (hg : w.grownBy w1 v.ownBlock) : w1.rowIs b t N f :=
  hr.of_block (hg.block b hr.lt (row_ne hr ho hne))

/-- append of one fresh value onto a slice that is owned, at a step of a region that draws. -/
theorem step_one {ops : Array Oper} {o : Oper} {a : Act} {w : World} {K : Act → World → Prop} {Q : Exit → Act → World → Prop} {E : Prop} (hgd : o.guard = none) (s x : Operand) (t e : TypeId) (ho : o.op = .call { callee := .builtin .append, args := #[s, x], argTypes := #[t, t] })
    (z : Value) (bytes : Nat) (ht : Ybaf.prog.underlying t = some (.slice e)) (hinfo : (Ybaf.prog.info? e).map (fun i => (i.zero, i.size, i.bytes)) = some (some z, 1, bytes)) (hz : z.cells.size = 1) (hby : bytes ≤ 16)
    (base : Nat) (v : Value) (xs : List Value) (y : Value) (n B : Nat) (hB : B = w.heap.size) (hy : y.oneCell' = true) (hs : a.eval s = v) (hx : a.eval x = .slice (some ⟨B, 0, none⟩) 1 1) (hown : w.ownsRow base e 1 v n xs) (hb : base ≤ w.heap.size) (hl : n ≤ 1000000)
    (h : ∀ g cap w', w'.ownsRow base e 1 (.slice (some ⟨g, 0, none⟩) (n + 1) cap) (n + 1) (xs ++ [y]) → w.grownBy w' v.ownBlock → K (a.put o.dst (.slice (some ⟨g, 0, none⟩) (n + 1) cap)) w') :
    if Region.wanted o (yielded ops a.tmps) = true then Oper.wp Ybaf.prog o a (w.alloc (.cells #[y] e)) K Q else E := by
  subst hB
  obtain ⟨i0, hi, hz0, hz1, hz2⟩ := info_parts hinfo
  refine step_append_lies _ hgd s x t ho base e i0 z 1 bytes ht hi hz0 hz1 hz2 hz (by decide) v n xs hs (hown.alloc _) ⟨w.heap.size, 0, none⟩ 1 1 [y] hx rfl ?_ ?_ (by decide) ?_ ?_ ?_ (w.heap.size + 1) ?_ ?_
  · exact World.news_of_block (cs := #[y]) (heap_alloc_new w _)
  · intro u hu
    rw [List.mem_singleton] at hu
    rw [hu]; exact hy
  · unfold maxLen; omega
  · have : (n + 1) * bytes ≤ 1000001 * 16 := Nat.mul_le_mul (by omega) hby
    omega
  · simp; omega
  · simp
  · intro g cap w' h1 h2 h3 h4
    exact h g cap w' h1 (grown_trans (World.grownBy_alloc w _ _) h2)

theorem wrap64_small {x : Int} (h0 : 0 ≤ x) (h1 : x ≤ 100000000) : IntKind.i64.wrap x = x := by
  simp [IntKind.wrap, IntKind.signed, IntKind.bits]; omega
theorem wrap32_small {x : Int} (h0 : 0 ≤ x) (h1 : x ≤ 100000000) : IntKind.i32.wrap x = x := by
  simp [IntKind.wrap, IntKind.signed, IntKind.bits]; omega

set_option maxRecDepth 100000 in
set_option maxHeartbeats 4000000 in
theorem push_far (S q start base : Nat) (g c : Nat) (ys : List Value) (f : Nat → Value) (w : World) (hS : SC w S f) (hk : f 235 = .int .i64 ((q : Int) + 32)) (hk2 : q ≤ 1000) (hs : start ≤ 100000) (hv : f 234 = .slice (some ⟨g, 0, none⟩) q c) (ho : w.ownsRow base 21 1 (.slice (some ⟨g, 0, none⟩) q c) q ys) (hb : base ≤ w.heap.size) (hSb : S < base) (hqc : q ≤ c) :
    Calls Ybaf.prog 22 #[.pointer (some ⟨S, 202, none⟩), .int .i64 start] w fun e w' => e = .returned (.tuple #[]) ∧ ∃ v', SC w' S (upd (upd f 234 v') 235 (.int .i64 ((q : Int) + 33))) ∧ w'.ownsRow base 21 1 v' (q + 1) (ys ++ [.int .i32 start]) ∧ UpF base S w w' := by
  have c235 : w.cell? ⟨S, 235, none⟩ = some (.int .i64 ((q : Int) + 32)) := by rw [hS.cell (by decide), hk]
  have z234 := hS.frozen 234
  have z235 := hS.frozen 235
  have i0 : (0 : Int) ≤ (q : Int) := by omega
  have i1 : (q : Int) ≤ 1000 := by omega
  have i2 : (0 : Int) ≤ (start : Int) := by omega
  have i3 : (start : Int) ≤ 100000 := by omega
  have i5 : ¬ (q : Int) + 32 < 32 := by omega
  have hw1 : IntKind.i64.wrap (q : Int) = q := wrap64_small (by omega) (by omega)
  have hw2 : IntKind.i32.wrap (start : Int) = start := wrap32_small (by omega) (by omega)
  have hqc' : (q : Int) ≤ (c : Int) := by omega
  have c234 : w.cell? ⟨S, 234, none⟩ = some (.slice (some ⟨g, 0, none⟩) q c) := by rw [hS.cell (by decide), hv]
  have hSa := hS.alloc (.cells #[.int .i32 start] 21)
  have d234 : (w.alloc (.cells #[.int .i32 start] 21)).cell? ⟨S, 234, none⟩ = some (.slice (some ⟨g, 0, none⟩) q c) := by rw [hSa.cell (by decide), hv]
  have d235 : (w.alloc (.cells #[.int .i32 start] 21)).cell? ⟨S, 235, none⟩ = some (.int .i64 ((q : Int) + 32)) := by rw [hSa.cell (by decide), hk]
  have HS := hidp hS
  have HO := hidp ho
  clear hS hSa ho
  go_enter Ybaf.func22, Ybaf.ntmps22
  go_wp2_with fail
  go_cut [] from 4 to 35 (fun w' => ∃ g2 c2 w1, w' = w1.setCell ⟨S, 234, none⟩ (.slice (some ⟨g2, 0, none⟩) (q + 1) c2) ∧ w1.ownsRow base 21 1 (.slice (some ⟨g2, 0, none⟩) (q + 1) c2) (q + 1) (ys ++ [.int .i32 start]) ∧ w.drew.grownBy w1 (Value.slice (some ⟨g, 0, none⟩) q c).ownBlock)
  case first =>
    go_region_law (refine step_one (w := w.drew) rfl (.tmp 29) (.tmp 32) 31 21 rfl (.int .i32 0) 4 Ybaf.underlying31 info21 rfl (by decide) base (.slice (some ⟨g, 0, none⟩) q c) ys (.int .i32 start) q w.heap.size rfl rfl rfl rfl HO.out hb (by omega) ?_; intro g1 cap1 w1 own1 gr1; have HS1 := hidp (row_kept (w := w.drew) HS.out HO.out (by decide) gr1); have c1 := HS1.out.cell (i := 234) (by decide); have z1 := HS1.out.frozen 234)
    all_goals (go_wp2_with fail; go_meet; exact ⟨g1, cap1, w1, rfl, own1, gr1⟩)
  case rest =>
    obtain ⟨g1, cap1, w1, rfl, own1, gr1⟩ := hcut
    have S1 := row_kept (w := w.drew) HS.out HO.out (by decide) gr1
    have e235 : w1.cell? ⟨S, 235, none⟩ = some (.int .i64 ((q : Int) + 32)) := by rw [S1.cell (by decide), hk]
    have y235 := S1.frozen 235
    have HS1 := hidp S1
    have HO1 := hidp own1
    have HG1 := hidp gr1
    clear S1 own1 gr1
    go_wp2_with fail
    go_end0
    refine ⟨rfl, _, sc_set (sc_set HS1.out 234 _) 235 _, ownsRow_setCell_below (ownsRow_setCell_below HO1.out hSb _) hSb _, ?_⟩
    exact (((UpF.refl base S w).drew.grown HG1.out hb (fun k hk => Or.inl (HO.out.lt k hk).1)).set (Nat.le_trans hb HG1.out.size) 234 _).set (by simp [World.setCell]; exact Nat.le_trans hb HG1.out.size) 235 _

set_option maxRecDepth 100000 in
set_option maxHeartbeats 4000000 in
theorem push_far0 (S start base : Nat) (ys : List Value) (f : Nat → Value) (w : World) (hS : SC w S f) (hk : f 235 = .int .i64 (32)) (hs : start ≤ 100000) (hv : f 234 = .slice none 0 0) (ho : w.ownsRow base 21 1 (.slice none 0 0) 0 ys) (hb : base ≤ w.heap.size) (hSb : S < base) :
    Calls Ybaf.prog 22 #[.pointer (some ⟨S, 202, none⟩), .int .i64 start] w fun e w' => e = .returned (.tuple #[]) ∧ ∃ v', SC w' S (upd (upd f 234 v') 235 (.int .i64 (33))) ∧ w'.ownsRow base 21 1 v' 1 (ys ++ [.int .i32 start]) ∧ UpF base S w w' := by
  have c235 : w.cell? ⟨S, 235, none⟩ = some (.int .i64 (32)) := by rw [hS.cell (by decide), hk]
  have z234 := hS.frozen 234
  have z235 := hS.frozen 235
  have i2 : (0 : Int) ≤ (start : Int) := by omega
  have i3 : (start : Int) ≤ 100000 := by omega
  have hw1 : IntKind.i64.wrap 0 = 0 := wrap64_small (by omega) (by omega)
  have hw2 : IntKind.i32.wrap (start : Int) = start := wrap32_small (by omega) (by omega)
  have c234 : w.cell? ⟨S, 234, none⟩ = some (.slice none 0 0) := by rw [hS.cell (by decide), hv]
  have hSa := hS.alloc (.cells #[.int .i32 start] 21)
  have d234 : (w.alloc (.cells #[.int .i32 start] 21)).cell? ⟨S, 234, none⟩ = some (.slice none 0 0) := by rw [hSa.cell (by decide), hv]
  have d235 : (w.alloc (.cells #[.int .i32 start] 21)).cell? ⟨S, 235, none⟩ = some (.int .i64 (32)) := by rw [hSa.cell (by decide), hk]
  have HS := hidp hS
  have HO := hidp ho
  clear hS hSa ho
  go_enter Ybaf.func22, Ybaf.ntmps22
  go_wp2_with fail
  go_cut [] from 4 to 35 (fun w' => ∃ g cap w1, w' = w1.setCell ⟨S, 234, none⟩ (.slice (some ⟨g, 0, none⟩) 1 cap) ∧ w1.ownsRow base 21 1 (.slice (some ⟨g, 0, none⟩) 1 cap) 1 (ys ++ [.int .i32 start]) ∧ w.drew.grownBy w1 (Value.slice none 0 0).ownBlock)
  case first =>
    go_region_law (refine step_one (w := w.drew) rfl (.tmp 29) (.tmp 32) 31 21 rfl (.int .i32 0) 4 Ybaf.underlying31 info21 rfl (by decide) base (.slice none 0 0) ys (.int .i32 start) 0 w.heap.size rfl rfl rfl rfl HO.out hb (by omega) ?_; intro g1 cap1 w1 own1 gr1; have HS1 := hidp (row_kept (w := w.drew) HS.out HO.out (by decide) gr1); have c1 := HS1.out.cell (i := 234) (by decide); have z1 := HS1.out.frozen 234)
    all_goals (go_wp2_with fail; go_meet; exact ⟨g1, cap1, w1, rfl, own1, gr1⟩)
  case rest =>
    obtain ⟨g1, cap1, w1, rfl, own1, gr1⟩ := hcut
    have S1 := row_kept (w := w.drew) HS.out HO.out (by decide) gr1
    have e235 : w1.cell? ⟨S, 235, none⟩ = some (.int .i64 (32)) := by rw [S1.cell (by decide), hk]
    have y235 := S1.frozen 235
    have HS1 := hidp S1
    have HO1 := hidp own1
    have HG1 := hidp gr1
    clear S1 own1 gr1
    go_wp2_with fail
    go_end0
    refine ⟨rfl, _, sc_set (sc_set HS1.out 234 _) 235 _, ownsRow_setCell_below (ownsRow_setCell_below HO1.out hSb _) hSb _, ?_⟩
    exact (((UpF.refl base S w).drew.grown HG1.out hb (fun k hk => Or.inl (HO.out.lt k hk).1)).set (Nat.le_trans hb HG1.out.size) 234 _).set (by simp [World.setCell]; exact Nat.le_trans hb HG1.out.size) 235 _

end Go.Proofs.YbulkaglsFmt
