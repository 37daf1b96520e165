/-
  THE WALK of zzs1623aopt.applyTx, and of Begin with options.
-/
import Derived.Test.YbulkagoyFmtIds
import Derived.Lib.OwnKind
import Derived.Deep.RegionLaw
namespace Go.Proofs.YbulkagoyFmt
open Go.RowKit Go.MuLone Go.Lib

theorem info3 : (Ybaf.prog.info? 3).map (fun i => (i.zero, i.size, i.bytes)) = some (some (.int .i64 0), 1, 8) := by kernel_rfl
theorem info32 : (Ybaf.prog.info? 32).map (fun i => (i.zero, i.size, i.bytes)) = some (some (.pointer none), 1, 8) := by kernel_rfl
theorem info86 : (Ybaf.prog.info? 86).map (fun i => (i.zero, i.size, i.bytes)) = some (some .nilIface, 1, 16) := by kernel_rfl

/-- append of one fresh value onto a slice that is owned. -/
theorem app_one {ops : Array Oper} {rest : List Oper} {o : Oper} {a : Act} {w : World} {Q : Exit → Act → World → Prop} (hgd : o.guard = none) (s x : Operand) (t e : TypeId) (ho : o.op = .call { callee := .builtin .append, args := #[s, x], argTypes := #[t, t] })
    (z : Value) (bytes : Nat) (ht : Ybaf.prog.underlying t = some (.slice e)) (hinfo : (Ybaf.prog.info? e).map (fun i => (i.zero, i.size, i.bytes)) = some (some z, 1, bytes)) (hz : z.cells.size = 1) (hby : bytes ≤ 16)
    (base : Nat) (v : Value) (xs : List Value) (y : Value) (n : Nat) (hy : y.oneCell' = true) (hs : a.eval s = v) (hx : a.eval x = .slice (some ⟨w.heap.size, 0, none⟩) 1 1) (hown : w.ownsRow base e 1 v n xs) (hb : base ≤ w.heap.size) (hl : n ≤ 1000000)
    (h : ∀ g cap w', w'.ownsRow base e 1 (.slice (some ⟨g, 0, none⟩) (n + 1) cap) (n + 1) (xs ++ [y]) → w.grownBy w' v.ownBlock → (v.ownBlock = some g ∨ w.heap.size ≤ g) → base ≤ g → g < w'.heap.size → wpList Ybaf.prog ops Q rest (a.put o.dst (.slice (some ⟨g, 0, none⟩) (n + 1) cap)) w') :
    wpList Ybaf.prog ops Q (o :: rest) a (w.alloc (.cells #[y] e)) := by
  obtain ⟨i0, hi, hz0, hz1, hz2⟩ := info_parts hinfo
  refine wpList_append_lies _ hgd s x t ho base e i0 z 1 bytes ht hi hz0 hz1 hz2 hz (by decide) v n xs hs (hown.alloc _) ⟨w.heap.size, 0, none⟩ 1 1 [y] hx rfl ?_ ?_ (by decide) ?_ ?_ ?_ (w.heap.size + 1) ?_ ?_
  · exact World.news_of_block (cs := #[y]) (heap_alloc_new w _)
  · intro u hu
    rw [List.mem_singleton] at hu
    rw [hu]; exact hy
  · unfold maxLen; omega
  · have : (n + 1) * bytes ≤ 1000001 * 16 := Nat.mul_le_mul (by omega) hby
    omega
  · simp; omega
  · simp
  · intro g cap w' h1 h2 h3 h4
    refine h g cap w' h1 (grown_trans (World.grownBy_alloc w _ _) h2) ?_ ?_ h4
    · rcases h3 with h3 | h3
      · exact Or.inl h3
      · exact Or.inr (by omega)
    · exact (h1.lt g rfl).1

theorem hid {p : Prop} (h : p) : Hid p := h

theorem row_ne {w : World} {b N base n : Nat} {t e : TypeId} {f : Nat → Value} {v : Value} {xs : List Value} (hr : w.rowIs b t N f) (ho : w.ownsRow base e 1 v n xs) (hne : t ≠ e) : some b ≠ v.ownBlock := by
  intro h
  obtain ⟨c, fz, hc⟩ := ownsRow_kind ho b h.symm
  obtain ⟨c', hc', _⟩ := hr
  rw [hc'] at hc
  injection hc with hc
  injection hc with _ h2 _
  exact hne h2

theorem row_kept {w w1 : World} {b N base n : Nat} {t e : TypeId} {f : Nat → Value} {v : Value} {xs : List Value} (hr : w.rowIs b t N f) (ho : w.ownsRow base e 1 v n xs) (hne : t ≠ e) (hg : w.grownBy w1 v.ownBlock) : w1.rowIs b t N f :=
  hr.of_block (hg.block b hr.lt (row_ne hr ho hne))

theorem own_kept {w w1 : World} {base base' n n' : Nat} {e e' : TypeId} {v v' : Value} {xs xs' : List Value} (h : w.ownsRow base e 1 v n xs) (ho : w.ownsRow base' e' 1 v' n' xs') (hne : e ≠ e') (hg : w.grownBy w1 v'.ownBlock) : w1.ownsRow base e 1 v n xs := by
  refine h.kept hg ?_
  cases hv : v.ownBlock with
  | none => exact Or.inl rfl
  | some b =>
    right
    intro h2
    obtain ⟨c, fz, hc⟩ := ownsRow_kind h b hv
    obtain ⟨c', fz', hc'⟩ := ownsRow_kind ho b h2.symm
    rw [hc] at hc'
    injection hc' with hc'
    injection hc' with _ h3 _
    exact hne h3

/-- append of one fresh value onto a slice that is owned, at a step of a region that draws. -/
theorem step_one {ops : Array Oper} {o : Oper} {a : Act} {w : World} {K : Act → World → Prop} {Q : Exit → Act → World → Prop} {E : Prop} (hgd : o.guard = none) (s x : Operand) (t e : TypeId) (ho : o.op = .call { callee := .builtin .append, args := #[s, x], argTypes := #[t, t] })
    (z : Value) (bytes : Nat) (ht : Ybaf.prog.underlying t = some (.slice e)) (hinfo : (Ybaf.prog.info? e).map (fun i => (i.zero, i.size, i.bytes)) = some (some z, 1, bytes)) (hz : z.cells.size = 1) (hby : bytes ≤ 16)
    (base : Nat) (v : Value) (xs : List Value) (y : Value) (n B : Nat) (hB : B = w.heap.size) (hy : y.oneCell' = true) (hs : a.eval s = v) (hx : a.eval x = .slice (some ⟨B, 0, none⟩) 1 1) (hown : w.ownsRow base e 1 v n xs) (hb : base ≤ w.heap.size) (hl : n ≤ 1000000)
    (h : ∀ g cap w', w'.ownsRow base e 1 (.slice (some ⟨g, 0, none⟩) (n + 1) cap) (n + 1) (xs ++ [y]) → w.grownBy w' v.ownBlock → K (a.put o.dst (.slice (some ⟨g, 0, none⟩) (n + 1) cap)) w') :
    if Region.wanted o (yielded ops a.tmps) = true then Oper.wp Ybaf.prog o a (w.alloc (.cells #[y] e)) K Q else E := by
  subst hB
  obtain ⟨i0, hi, hz0, hz1, hz2⟩ := info_parts hinfo
  refine step_append_lies _ hgd s x t ho base e i0 z 1 bytes ht hi hz0 hz1 hz2 hz (by decide) v n xs hs (hown.alloc _) ⟨w.heap.size, 0, none⟩ 1 1 [y] hx rfl ?_ ?_ (by decide) ?_ ?_ ?_ (w.heap.size + 1) ?_ ?_
  · exact World.news_of_block (cs := #[y]) (heap_alloc_new w _)
  · intro u hu
    rw [List.mem_singleton] at hu
    rw [hu]; exact hy
  · unfold maxLen; omega
  · have : (n + 1) * bytes ≤ 1000001 * 16 := Nat.mul_le_mul (by omega) hby
    omega
  · simp; omega
  · simp
  · intro g cap w' h1 h2 h3 h4
    exact h g cap w' h1 (grown_trans (World.grownBy_alloc w _ _) h2)

theorem o_row (w : World) (k tag : Int) (L : Nat) : (w.alloc (.cells #[.int .i64 k, .int .u64 tag, .pointer (some ⟨L, 0, none⟩)] 82)).rowIs w.heap.size 82 3 (fun i => [.int .i64 k, .int .u64 tag, .pointer (some ⟨L, 0, none⟩)].getD i undef) := by
  refine World.rowIs_alloc w #[.int .i64 k, .int .u64 tag, .pointer (some ⟨L, 0, none⟩)] 82 _ (fun i hi => ?_)
  have hi' : i < 3 := hi
  match i, hi' with
  | 0, _ => rfl
  | 1, _ => rfl
  | 2, _ => rfl

theorem o_cells {w : World} {O L : Nat} {k tag : Int} (h : w.rowIs O 82 3 (fun i => [.int .i64 k, .int .u64 tag, .pointer (some ⟨L, 0, none⟩)].getD i undef)) :
    w.cell? ⟨O, 0, none⟩ = some (.int .i64 k) ∧ w.cell? ⟨O, 1, none⟩ = some (.int .u64 tag) ∧ w.cell? ⟨O, 2, none⟩ = some (.pointer (some ⟨L, 0, none⟩)) :=
  ⟨h.cell (by decide), h.cell (by decide), h.cell (by decide)⟩

/-- Below 'base' nothing has changed but L and T. -/
structure Fr (base L T : Nat) (w w' : World) : Prop where
  os : w'.os = w.os
  tape : w'.tape = w.tape
  output : w'.output = w.output
  size : w.heap.size ≤ w'.heap.size
  block : ∀ i, i < base → i ≠ L → i ≠ T → w'.heap[i]? = w.heap[i]?

theorem Fr.refl (base L T : Nat) (w : World) : Fr base L T w w := ⟨rfl, rfl, rfl, Nat.le_refl _, fun _ _ _ _ => rfl⟩
theorem Fr.trans {base L T : Nat} {w w1 w2 : World} (h : Fr base L T w w1) (k : Fr base L T w1 w2) : Fr base L T w w2 :=
  ⟨k.os.trans h.os, k.tape.trans h.tape, k.output.trans h.output, Nat.le_trans h.size k.size, fun i a b c => (k.block i a b c).trans (h.block i a b c)⟩
theorem Fr.grown {base L T : Nat} {w w1 w2 : World} {row : Option Nat} (h : Fr base L T w w1) (g : w1.grownBy w2 row) (hb : base ≤ w1.heap.size) (hr : ∀ k, row = some k → base ≤ k ∨ k = L ∨ k = T) : Fr base L T w w2 :=
  h.trans ⟨g.os, g.tape, g.output, g.size, fun i a b c => g.block i (by omega) (fun e => by rcases hr i e.symm with h | h | h <;> omega)⟩
theorem Fr.drew {base L T : Nat} {w w1 : World} (h : Fr base L T w w1) : Fr base L T w w1.drew := ⟨h.os, h.tape, h.output, h.size, h.block⟩
theorem Fr.set {base L T : Nat} {w w1 : World} (h : Fr base L T w w1) (hb : base ≤ w1.heap.size) (C o : Nat) (v : Value) (hC : C = L ∨ C = T) : Fr base L T w (w1.setCell ⟨C, o, none⟩ v) :=
  h.grown (grown_set (World.grownBy.refl _ _) o v) hb (fun k hk => by cases hk; exact Or.inr hC)

abbrev oF (k tag : Int) (L : Nat) : Nat → Value := fun i => [.int .i64 k, .int .u64 tag, .pointer (some ⟨L, 0, none⟩)].getD i undef

/-- Where applyTx stands. -/
structure At (w0 w : World) (base L T O : Nat) (k tag : Int) (vi vt : Value) (ni nt : Nat) (xi xt : List Value) (ft : Nat → Value) : Prop where
  rL : w.rowIs L 79 2 (fun j => if j = 0 then vi else vt)
  rT : w.rowIs T 48 20 ft
  rO : w.rowIs O 82 3 (oF k tag L)
  oi : w.ownsRow base 3 1 vi ni xi
  ot : w.ownsRow base 32 1 vt nt xt
  fr : Fr base L T w0 w
  sz : base ≤ w.heap.size

theorem At.stepI {w0 u w1 : World} {base L T O : Nat} {k tag : Int} {vi vt v : Value} {ni nt : Nat} {xi xt ys : List Value} {ft : Nat → Value} {nn : Nat} (h : At w0 u base L T O k tag vi vt ni nt xi xt ft) (hLb : L < base) (hLT : L ≠ T) (hOL : O ≠ L)
    (own1 : w1.ownsRow base 3 1 v nn ys) (gr1 : u.drew.grownBy w1 vi.ownBlock) : At w0 (w1.setCell ⟨L, 0, none⟩ v) base L T O k tag v vt nn nt ys xt ft := by
  have rL := row_kept (w := u.drew) h.rL h.oi (by decide) gr1
  have rT := row_kept (w := u.drew) h.rT h.oi (by decide) gr1
  have rO := row_kept (w := u.drew) h.rO h.oi (by decide) gr1
  have ot := own_kept (w := u.drew) h.ot h.oi (by decide) gr1
  have sz1 : base ≤ w1.heap.size := Nat.le_trans h.sz gr1.size
  refine ⟨(rL.set 0 v).congr (fun i _ => ?_), rT.setOther hLT.symm _, rO.setOther hOL _, ownsRow_setCell_below own1 hLb _, ownsRow_setCell_below ot hLb _, (h.fr.drew.grown gr1 h.sz (fun k hk => Or.inl (h.oi.lt k hk).1)).set sz1 L 0 v (Or.inl rfl), by simp [World.setCell]; exact sz1⟩
  by_cases hi : i = 0 <;> simp [hi]

theorem At.stepT {w0 u w1 : World} {base L T O : Nat} {k tag : Int} {vi vt v : Value} {ni nt : Nat} {xi xt ys : List Value} {ft : Nat → Value} {nn : Nat} (h : At w0 u base L T O k tag vi vt ni nt xi xt ft) (hLb : L < base) (hLT : L ≠ T) (hOL : O ≠ L)
    (own1 : w1.ownsRow base 32 1 v nn ys) (gr1 : u.drew.grownBy w1 vt.ownBlock) : At w0 (w1.setCell ⟨L, 1, none⟩ v) base L T O k tag vi v ni nn xi ys ft := by
  have rL := row_kept (w := u.drew) h.rL h.ot (by decide) gr1
  have rT := row_kept (w := u.drew) h.rT h.ot (by decide) gr1
  have rO := row_kept (w := u.drew) h.rO h.ot (by decide) gr1
  have oi := own_kept (w := u.drew) h.oi h.ot (by decide) gr1
  have sz1 : base ≤ w1.heap.size := Nat.le_trans h.sz gr1.size
  refine ⟨(rL.set 1 v).congr (fun i hi => ?_), rT.setOther hLT.symm _, rO.setOther hOL _, ownsRow_setCell_below oi hLb _, ownsRow_setCell_below own1 hLb _, (h.fr.drew.grown gr1 h.sz (fun k hk => Or.inl (h.ot.lt k hk).1)).set sz1 L 1 v (Or.inl rfl), by simp [World.setCell]; exact sz1⟩
  match i, hi with
  | 0, _ => rfl
  | 1, _ => rfl

set_option maxRecDepth 100000 in
set_option maxHeartbeats 4000000 in
theorem apply_any (base L T : Nat) (k : Nat) (tag : Int) (vi vt : Value) (ft : Nat → Value) (xi xt : List Value) (w : World) (hL : w.rowIs L 79 2 (fun j => if j = 0 then vi else vt)) (hT : w.rowIs T 48 20 ft)
    (hvi : w.ownsRow base 3 1 vi k xi) (hvt : w.ownsRow base 32 1 vt k xt) (hk : k ≤ 2000) (hb : base ≤ w.heap.size) (hLb : L < base) (hTb : T < base) :
    Calls Ybaf.prog 57 #[.agg #[.int .i64 k, .int .u64 tag, .pointer (some ⟨L, 0, none⟩)], .pointer (some ⟨T, 0, none⟩)] w fun e w' => e = .returned (.tuple #[]) ∧ ∃ vi' vt', w'.rowIs L 79 2 (fun j => if j = 0 then vi' else vt') ∧ w'.rowIs T 48 20 (fun j => if j = 4 then .int .u64 tag else ft j) ∧
      w'.ownsRow base 3 1 vi' (k + 1) (xi ++ [.int .i64 k]) ∧ w'.ownsRow base 32 1 vt' (k + 1) (xt ++ [.pointer (some ⟨T, 0, none⟩)]) ∧ Fr base L T w w' ∧ base ≤ w'.heap.size := by
  have hLT : L ≠ T := by
    intro h
    obtain ⟨c, hc, _⟩ := hL
    obtain ⟨c', hc', _⟩ := hT
    rw [h, hc'] at hc
    injection hc with hc
    injection hc with _ h2 _
    exact absurd h2 (by decide)
  have A0 : At w (w.alloc (.cells #[.int .i64 k, .int .u64 tag, .pointer (some ⟨L, 0, none⟩)] 82)) base L T w.heap.size k tag vi vt k k xi xt ft :=
    ⟨hL.alloc _, hT.alloc _, o_row w k tag L, hvi.alloc _, hvt.alloc _, (Fr.refl _ _ _ _).grown (World.grownBy_alloc _ _ none) hb (fun _ h => by cases h), by simp; omega⟩
  have hsz2 : (w.alloc (.cells #[.int .i64 k, .int .u64 tag, .pointer (some ⟨L, 0, none⟩)] 82)).heap.size = w.heap.size + 1 := by simp
  obtain ⟨O, hOw⟩ : ∃ O, O = w.heap.size := ⟨_, rfl⟩
  have hOL : O ≠ L := by omega
  have hOT : O ≠ T := by omega
  rw [← hOw] at hsz2 A0
  obtain ⟨u, hu⟩ : ∃ u, u = w.alloc (.cells #[.int .i64 k, .int .u64 tag, .pointer (some ⟨L, 0, none⟩)] 82) := ⟨_, rfl⟩
  go_enter Ybaf.func57, Ybaf.ntmps57
  go_wp2_with fail
  rw [← hu] at hsz2 A0 ⊢
  rw [← hOw]
  have HA0 := hid A0
  clear hu hL hT hvi hvt hb hOw A0
  go_cut [] from 3 to 16 (fun w' => ∃ g cap, At w w' base L T O k tag (.slice (some ⟨g, 0, none⟩) (k + 1) cap) vt (k + 1) k (xi ++ [.int .i64 k]) xt ft)
  case first =>
    obtain ⟨o0, o1, o2⟩ := o_cells HA0.out.rO
    have c0 : u.cell? ⟨L, 0, none⟩ = some vi := HA0.out.rL.cell (by decide)
    obtain ⟨p0, p1, p2⟩ := o_cells (HA0.out.rO.alloc (.cells #[.int .i64 k] 3))
    have d0 : (u.alloc (.cells #[.int .i64 k] 3)).cell? ⟨L, 0, none⟩ = some vi := (HA0.out.rL.alloc _).cell (by decide)
    go_region_law (refine step_one (w := u.drew) rfl (.tmp 10) (.tmp 13) 76 3 rfl (.int .i64 0) 8 Ybaf.underlying76 info3 rfl (by decide) base vi xi (.int .i64 k) k (O + 1) hsz2.symm rfl rfl rfl HA0.out.oi HA0.out.sz (by omega) ?_; intro g1 cap1 w1 own1 gr1; have HO1 := hid (row_kept (w := u.drew) HA0.out.rO HA0.out.oi (by decide) gr1); have HL2 := hid (row_kept (w := u.drew) HA0.out.rL HA0.out.oi (by decide) gr1); have c0' := HL2.out.cell (i := 0) (by decide); have z0' := HL2.out.frozen 0; have q2 := (o_cells HO1.out).2.2)
    all_goals (go_wp2_with fail; go_meet; exact ⟨g1, cap1, HA0.out.stepI hLb hLT hOL own1 gr1⟩)
  case rest =>
    obtain ⟨g1, cap1, A1⟩ := hcut
    clear HA0 hsz2
    have HA1 := hid A1
    clear A1
    go_wp2_with fail
    go_cut [] from 3 to 28 (fun w' => ∃ g cap g' cap', At w w' base L T O k tag (.slice (some ⟨g, 0, none⟩) (k + 1) cap) (.slice (some ⟨g', 0, none⟩) (k + 1) cap') (k + 1) (k + 1) (xi ++ [.int .i64 k]) (xt ++ [.pointer (some ⟨T, 0, none⟩)]) ft)
    case first =>
      obtain ⟨o0, o1, o2⟩ := o_cells HA1.out.rO
      have c0 : wc.cell? ⟨L, 1, none⟩ = some vt := HA1.out.rL.cell (by decide)
      obtain ⟨p0, p1, p2⟩ := o_cells (HA1.out.rO.alloc (.cells #[.pointer (some ⟨T, 0, none⟩)] 32))
      have d0 : (wc.alloc (.cells #[.pointer (some ⟨T, 0, none⟩)] 32)).cell? ⟨L, 1, none⟩ = some vt := (HA1.out.rL.alloc _).cell (by decide)
      go_region_law (refine step_one (w := wc.drew) rfl (.tmp 23) (.tmp 25) 77 32 rfl (.pointer none) 8 Ybaf.underlying77 info32 rfl (by decide) base vt xt (.pointer (some ⟨T, 0, none⟩)) k wc.heap.size rfl rfl rfl rfl HA1.out.ot HA1.out.sz (by omega) ?_; intro g2 cap2 w1 own1 gr1; have HO1 := hid (row_kept (w := wc.drew) HA1.out.rO HA1.out.ot (by decide) gr1); have HL2 := hid (row_kept (w := wc.drew) HA1.out.rL HA1.out.ot (by decide) gr1); have c0' := HL2.out.cell (i := 1) (by decide); have z0' := HL2.out.frozen 1; have q2 := (o_cells HO1.out).2.2)
      all_goals (go_wp2_with fail; go_meet; exact ⟨g1, cap1, g2, cap2, HA1.out.stepT hLb hLT hOL own1 gr1⟩)
    case rest =>
      obtain ⟨g1', cap1', g2, cap2, A2⟩ := hcut
      have o1 := (o_cells A2.rO).2.1
      have t4 := A2.rT.cell (i := 4) (by decide)
      have zt := A2.rT.frozen 4
      have HA2 := hid A2
      clear A2 HA1
      go_wp2_with fail
      go_end0
      have A2 := HA2.out
      exact ⟨rfl, _, _, A2.rL.setOther hLT _, A2.rT.set 4 _, ownsRow_setCell_below A2.oi hTb _, ownsRow_setCell_below A2.ot hTb _, A2.fr.set A2.sz T 4 _ (Or.inr rfl), by simp [World.setCell]; exact A2.sz⟩

end Go.Proofs.YbulkagoyFmt
