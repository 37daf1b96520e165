/-
  THE WALK of Walker.Next behind a statement with statements inside.
-/
import Derived.Test.YbulkaguiNext
namespace Go.Proofs.Ybulkagui
open Go.RowKit Go.Lib

theorem info27 : (Yba.prog.info? 27).map (fun i => (i.zero, i.size, i.bytes)) = some (some (.pointer none), 1, 8) := by kernel_rfl
theorem grown_tr {w w1 w2 : World} {row : Option Nat} (h : w.grownBy w1 row) (k : w1.grownBy w2 row) : w.grownBy w2 row :=
  ⟨k.os.trans h.os, k.tape.trans h.tape, k.output.trans h.output, Nat.le_trans h.size k.size, fun i hi hr => (k.block i (Nat.lt_of_lt_of_le hi h.size) hr).trans (h.block i hi hr)⟩

theorem row_kept {w w1 : World} {b N base n : Nat} {t e : TypeId} {f : Nat → Value} {v : Value} {xs : List Value} (hr : w.rowIs b t N f) (ho : w.ownsRow base e 1 v n xs) (hne : t ≠ e) (hg : w.grownBy w1 v.ownBlock) : w1.rowIs b t N f :=
  hr.of_block (hg.block b hr.lt (row_ne hr ho hne))

/-- append of one fresh value onto a slice that is owned, at a step of a region that draws. -/
theorem step_one {ops : Array Oper} {o : Oper} {a : Act} {w : World} {K : Act → World → Prop} {Q : Exit → Act → World → Prop} {E : Prop} (hgd : o.guard = none) (s x : Operand) (t e : TypeId) (ho : o.op = .call { callee := .builtin .append, args := #[s, x], argTypes := #[t, t] })
    (z : Value) (bytes : Nat) (ht : Yba.prog.underlying t = some (.slice e)) (hinfo : (Yba.prog.info? e).map (fun i => (i.zero, i.size, i.bytes)) = some (some z, 1, bytes)) (hz : z.cells.size = 1) (hby : bytes ≤ 16)
    (base : Nat) (v : Value) (xs : List Value) (y : Value) (n B : Nat) (hB : B = w.heap.size) (hy : y.oneCell' = true) (hs : a.eval s = v) (hx : a.eval x = .slice (some ⟨B, 0, none⟩) 1 1) (hown : w.ownsRow base e 1 v n xs) (hb : base ≤ w.heap.size) (hl : n ≤ 1000000)
    (h : ∀ g cap w', w'.ownsRow base e 1 (.slice (some ⟨g, 0, none⟩) (n + 1) cap) (n + 1) (xs ++ [y]) → w.grownBy w' v.ownBlock → K (a.put o.dst (.slice (some ⟨g, 0, none⟩) (n + 1) cap)) w') :
    if Region.wanted o (yielded ops a.tmps) = true then Oper.wp Yba.prog o a (w.alloc (.cells #[y] e)) K Q else E := by
  subst hB
  obtain ⟨i0, hi, hz0, hz1, hz2⟩ := info_parts hinfo
  refine step_append_lies _ hgd s x t ho base e i0 z 1 bytes ht hi hz0 hz1 hz2 hz (by decide) v n xs hs (hown.alloc _) ⟨w.heap.size, 0, none⟩ 1 1 [y] hx rfl ?_ ?_ (by decide) ?_ ?_ ?_ (w.heap.size + 1) ?_ ?_
  · exact World.news_of_block (cs := #[y]) (heap_alloc_new w _)
  · intro u hu
    rw [List.mem_singleton] at hu
    rw [hu]; exact hy
  · unfold maxLen; omega
  · have : (n + 1) * bytes ≤ 1000001 * 16 := Nat.mul_le_mul (by omega) hby
    omega
  · simp; omega
  · simp
  · intro g cap w' h1 h2 h3 h4
    exact h g cap w' h1 (grown_tr (World.grownBy_alloc w _ _) h2)

/-- The Walker behind the push. -/
structure Pushed (w0 : World) (base K ND u : Nat) (st : List (Option Nat)) (w : World) : Prop where
  row : ∃ v, w.rowIs K 43 2 (fun j => if j = 0 then v else ptr ND (some u)) ∧ w.ownsRow base 27 1 v st.length (st.reverse.map (ptr ND))
  fr : KF base K w0 w
  sz : base ≤ w.heap.size

theorem pushed_of {w w1 : World} {base K ND u c g cap : Nat} {v : Value} {st : List (Option Nat)} (hb : base ≤ w.heap.size) (hr : w.rowIs K 43 2 (fun j => if j = 0 then v else ptr ND (some u))) (ho : w.ownsRow base 27 1 v st.length (st.reverse.map (ptr ND)))
    (own1 : w1.ownsRow base 27 1 (.slice (some ⟨g, 0, none⟩) (st.length + 1) cap) (st.length + 1) (st.reverse.map (ptr ND) ++ [ptr ND (some c)])) (gr1 : w.drew.grownBy w1 v.ownBlock) :
    Pushed w base K ND u (some c :: st) (w1.setCell ⟨K, 0, none⟩ (.slice (some ⟨g, 0, none⟩) (st.length + 1) cap)) := by
  have rK := row_kept (w := w.drew) hr ho (by decide) gr1
  have sz1 : base ≤ w1.heap.size := Nat.le_trans hb gr1.size
  have f0 : KF base K w w.drew := ⟨rfl, rfl, rfl, Nat.le_refl _, fun _ _ _ => rfl⟩
  have f1 : KF base K w w1 := f0.grown gr1 hb (fun k hk => Or.inl (ho.lt k hk).1)
  refine ⟨⟨.slice (some ⟨g, 0, none⟩) (st.length + 1) cap, (rK.set 0 _).congr (fun i hi => ?_), ?_⟩, f1.grown (grown_set1 w1 K 0 _) sz1 (fun k hk => by cases hk; exact Or.inr rfl), by simp [World.setCell]; exact sz1⟩
  · match i, hi with
    | 0, _ => rfl
    | 1, _ => rfl
  · have h := own_set (o := 0) (u := .slice (some ⟨g, 0, none⟩) (st.length + 1) cap) own1 (row_ne rK own1 (by decide))
    simpa using h

set_option maxRecDepth 100000 in
set_option maxHeartbeats 4000000 in
theorem next_push (base K ND n u c : Nat) (first next : Nat → Option Nat) (st0 : List (Option Nat)) (w : World) (h : Walk w base K ND st0 (some u)) (hu : u ≤ n) (hcn0 : c ≤ n) (hfu : first u = some c) (hb : base ≤ w.heap.size) (hL : Links w ND n first next) (hND : ND < base) (hNK : ND ≠ K) (hst0 : ∀ c, some c ∈ st0 → c ≤ n) (hsl0 : st0.length < 2000) :
    Calls Yba.prog 5 #[.pointer (some ⟨K, 0, none⟩)] w (NextPost w base K ND next (some c :: st0)) := by
  obtain ⟨v, hr, ho⟩ := h.row
  have c0 : w.cell? ⟨K, 0, none⟩ = some v := hr.cell (i := 0) (by decide)
  have c1 : w.cell? ⟨K, 1, none⟩ = some (.pointer (some ⟨ND, u * 18, none⟩)) := hr.cell (i := 1) (by decide)
  have cu : w.cell? ⟨ND, u * 18 + 6, none⟩ = some (.pointer (some ⟨ND, c * 18, none⟩)) := by rw [(hL u hu).1, hfu]; rfl
  have d0 : (w.alloc (.cells #[.pointer (some ⟨ND, c * 18, none⟩)] 27)).cell? ⟨K, 0, none⟩ = some v := (hr.alloc _).cell (by decide)
  have HL := hid hL
  have HO := hid ho
  have HRW := hid hr
  clear hL h ho hr hfu
  obtain ⟨st, hstd⟩ : ∃ st, st = some c :: st0 := ⟨_, rfl⟩
  rw [← hstd]
  have HSD := hid hstd
  clear hstd
  go_enter Yba.func5, Yba.ntmps5
  go_wp2_with fail
  go_cut [] from 20 to 35 (fun w' => Pushed w base K ND u st w')
  case first =>
    go_region_law (refine step_one (w := w.drew) rfl (.tmp 24) (.tmp 32) 41 27 rfl (.pointer none) 8 Yba.underlying41 info27 rfl (by decide) base v (st0.reverse.map (ptr ND)) (.pointer (some ⟨ND, c * 18, none⟩)) st0.length w.heap.size rfl rfl rfl rfl HO.out hb (by omega) ?_; intro g1 cap1 w1 own1 gr1; have HK1 := hid (row_kept (w := w.drew) HRW.out HO.out (by decide) gr1); have k0' := HK1.out.cell (i := 0) (by decide); have z0' := HK1.out.frozen 0)
    all_goals (go_wp2_with fail; go_meet; rw [HSD.out]; exact pushed_of hb HRW.out HO.out own1 gr1)
  case rest =>
    have HC := hid hcut
    clear hcut
    have hstd := HSD.out
    have hst : ∀ c, some c ∈ st → c ≤ n := by
      rw [hstd]
      intro k hk
      rcases List.mem_cons.1 hk with h | h
      · cases h; exact hcn0
      · exact hst0 k h
    have hsl : st.length ≤ 2000 := by rw [hstd]; simp; omega
    obtain ⟨v1, hr1, ho1⟩ := HC.out.row
    have k1 : wc.cell? ⟨K, 1, none⟩ = some (.pointer (some ⟨ND, u * 18, none⟩)) := hr1.cell (i := 1) (by decide)
    have y1 := hr1.frozen 1
    have R0 : NR w base K ND st (wc.setCell ⟨K, 1, none⟩ (.pointer none)) := by
      refine ⟨⟨v1, (hr1.set 1 _).congr (fun i hi => ?_), own_set ho1 (row_ne hr1 ho1 (by decide))⟩, HC.out.fr.grown (grown_set1 wc K 1 _) HC.out.sz (fun k hk => by cases hk; exact Or.inr rfl), by simp [World.setCell]; exact HC.out.sz⟩
      match i, hi with
      | 0, _ => rfl
      | 1, _ => rfl
    have HR0 := hid R0
    have HST := hid hst
    clear R0 hst hstd hr1 ho1 HC HO HRW c0 c1 cu d0
    go_wp2_with fail
    go_loopg [4] (st.length + 1) (fun g t wl => ∃ s : List (Option Nat), s.length + 1 = g ∧ NR w base K ND s wl ∧ pop s = pop st ∧ (∀ c, some c ∈ s → c ≤ n) ∧ s.length ≤ st.length)
    case atStart => exact ⟨st, rfl, HR0.out, rfl, HST.out, Nat.le_refl _⟩
    case round =>
      obtain ⟨s, hg, hR, hp, hs, hsl'⟩ := hrel
      have HP := hid hp
      have HS := hid hs
      have HG := hid hg
      clear hp hs hg HR0
      obtain ⟨v', hr', ho'⟩ := hR.row
      have k0 : wr.cell? ⟨K, 0, none⟩ = some v' := hr'.cell (i := 0) (by decide)
      have y0 := hr'.frozen 0
      cases s with
      | nil =>
        obtain ⟨q, cq, rfl⟩ : ∃ q cq, v' = .slice q 0 cq := by
          rcases ho'.2 with ⟨hv, _⟩ | ⟨g', cap', cur, hv, _⟩
          · exact ⟨none, 0, hv⟩
          · exact ⟨some ⟨g', 0, none⟩, cap', hv⟩
        have HR := hid hR
        clear hR
        go_wp2_with fail
        go_ret2
        refine ⟨HR.out.fr, HR.out.sz, ?_⟩
        rw [← HP.out]
        exact ⟨rfl, ⟨⟨_, hr', ho'⟩⟩⟩
      | cons t r =>
        obtain ⟨g, cp, hv, hbg, hlt⟩ := ho'.form (by simp)
        subst hv
        have hcp : (t :: r).length ≤ cp := by
          rcases ho'.2 with ⟨h', _⟩ | ⟨g', cap', cur, h', _, _, hn', _⟩
          · simp at h'
          · simp only [Value.slice.injEq] at h'
            obtain ⟨_, _, rfl⟩ := h'
            exact hn'
        have ht : wr.cell? ⟨g, r.length, none⟩ = some (ptr ND t) := by
          rw [World.ownsRow.cellAt ho' r.length (by simp)]
          simp
        have hzt : wr.frozen? ⟨g, r.length, none⟩ = false := World.ownsRow.frozenAt ho' r.length
        have hgK : ¬ g = K := fun e => row_ne hr' ho' (by decide) (by rw [← e]; rfl)
        have hKg : ¬ K = g := fun e => hgK e.symm
        have hrl : r.length + 1 ≤ 2000 := by simp at hsl'; omega
        have i1 : (r.length : Int) ≤ 2000 := by omega
        simp only [List.length_cons] at k0 hr' ho' hcp
        have i2 : (r.length : Int) ≤ (cp : Int) := by omega
        have HR := hid hR
        have HO := hid ho'
        have HRR := hid hr'
        clear hR ho' hr'
        cases t with
        | none =>
          have ht' : wr.cell? ⟨g, r.length, none⟩ = some (.pointer none) := ht
          clear ht
          go_wp2_with fail
          go_quiet (fail)
          go_wp2_with fail
          go_region
          all_goals go_wp2_with fail
          go_roundg (gk - 1)
          case rel =>
            refine ⟨r, by have := HG.out; simp at this; omega, nr_pop HR.out HRR.out HO.out _, HP.out, fun c hc => HS.out c (List.mem_cons_of_mem _ hc), by simp at hsl'; omega⟩
          case measure => have := HG.out; simp at this; omega
        | some c =>
          have hcn : c ≤ n := HS.out c (by simp)
          have ht' : wr.cell? ⟨g, r.length, none⟩ = some (.pointer (some ⟨ND, c * 18, none⟩)) := ht
          have hx : wr.cell? ⟨ND, c * 18 + 7, none⟩ = some (ptr ND (next c)) := by
            rw [World.cell?_of_block (HR.out.fr.block ND hND hNK)]
            exact (HL.out c hcn).2
          obtain ⟨q, hq⟩ : ∃ q, q = (next c).map (fun i => (⟨ND, i * 18, none⟩ : Addr)) := ⟨_, rfl⟩
          have hx' : wr.cell? ⟨ND, c * 18 + 7, none⟩ = some (.pointer q) := by rw [hq]; exact hx
          have HQ : Hid (ptr ND (next c) = .pointer q) := hid (by rw [hq]; rfl)
          clear hx hq
          have k1 : wr.cell? ⟨K, 1, none⟩ = some (.pointer none) := HRR.out.cell (i := 1) (by decide)
          have y1 := HRR.out.frozen 1
          have hNg : ¬ ND = g := by omega
          have hNK' : ¬ ND = K := hNK
          clear ht
          go_wp2_with fail
          go_quiet (fail)
          go_wp2_with fail
          go_quiet (fail)
          go_wp2_with fail
          go_ret2
          have T := next_take HR.out hbg HRR.out HO.out (next c) (.pointer q) HQ.out
          refine ⟨(T _ _).1, (T _ _).2.1, ?_⟩
          rw [← HP.out]
          exact ⟨rfl, (T _ _).2.2⟩

end Go.Proofs.Ybulkagui
