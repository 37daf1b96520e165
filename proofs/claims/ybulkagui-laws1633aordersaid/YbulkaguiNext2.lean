/-
  THE WALK of Walker.Next behind a statement.
-/
import Derived.Test.YbulkaguiNext
namespace Go.Proofs.Ybulkagui
open Go.RowKit Go.Lib

set_option maxRecDepth 100000 in
set_option maxHeartbeats 2000000 in
/-- Next behind a statement with nothing inside. -/
theorem next_leaf (base K ND n u : Nat) (first next : Nat → Option Nat) (st : List (Option Nat)) (w : World) (h : Walk w base K ND st (some u)) (hu : u ≤ n) (hfu : first u = none) (hb : base ≤ w.heap.size) (hL : Links w ND n first next) (hND : ND < base) (hNK : ND ≠ K) (hst : ∀ c, some c ∈ st → c ≤ n) (hsl : st.length ≤ 2000) :
    Calls Yba.prog 5 #[.pointer (some ⟨K, 0, none⟩)] w (NextPost w base K ND next st) := by
  obtain ⟨v, hr, ho⟩ := h.row
  have c0 : w.cell? ⟨K, 0, none⟩ = some v := hr.cell (i := 0) (by decide)
  have c1 : w.cell? ⟨K, 1, none⟩ = some (.pointer (some ⟨ND, u * 18, none⟩)) := hr.cell (i := 1) (by decide)
  have cu : w.cell? ⟨ND, u * 18 + 6, none⟩ = some (.pointer none) := by rw [(hL u hu).1, hfu]; rfl
  have z1 := hr.frozen 1
  have z0 := hr.frozen 0
  have R0 : NR w base K ND st (w.setCell ⟨K, 1, none⟩ (.pointer none)) := by
    refine ⟨⟨v, (hr.set 1 _).congr (fun i hi => ?_), own_set ho (row_ne hr ho (by decide))⟩, (KF.refl _ _ _).grown (grown_set1 w K 1 _) hb (fun k hk => by cases hk; exact Or.inr rfl), by simp [World.setCell]; exact hb⟩
    match i, hi with
    | 0, _ => rfl
    | 1, _ => rfl
  have HR0 := hid R0
  have HL := hid hL
  have HST := hid hst
  clear R0 hL h ho hst hfu
  go_enter Yba.func5, Yba.ntmps5
  go_wp2_with fail
  go_loopg [4] (st.length + 1) (fun g t wl => ∃ s : List (Option Nat), s.length + 1 = g ∧ NR w base K ND s wl ∧ pop s = pop st ∧ (∀ c, some c ∈ s → c ≤ n) ∧ s.length ≤ st.length)
  case atStart => exact ⟨st, rfl, HR0.out, rfl, HST.out, Nat.le_refl _⟩
  case round =>
    obtain ⟨s, hg, hR, hp, hs, hsl'⟩ := hrel
    have HP := hid hp
    have HS := hid hs
    have HG := hid hg
    clear hp hs hg c0 c1 cu z1 z0 HR0 hr
    obtain ⟨v', hr', ho'⟩ := hR.row
    have k0 : wr.cell? ⟨K, 0, none⟩ = some v' := hr'.cell (i := 0) (by decide)
    have y0 := hr'.frozen 0
    cases s with
    | nil =>
      obtain ⟨q, cq, rfl⟩ : ∃ q cq, v' = .slice q 0 cq := by
        rcases ho'.2 with ⟨hv, _⟩ | ⟨g', cap', cur, hv, _⟩
        · exact ⟨none, 0, hv⟩
        · exact ⟨some ⟨g', 0, none⟩, cap', hv⟩
      have HR := hid hR
      clear hR
      go_wp2_with fail
      go_ret2
      refine ⟨HR.out.fr, HR.out.sz, ?_⟩
      rw [← HP.out]
      exact ⟨rfl, ⟨⟨_, hr', ho'⟩⟩⟩
    | cons t r =>
      obtain ⟨g, cp, hv, hbg, hlt⟩ := ho'.form (by simp)
      subst hv
      have hcp : (t :: r).length ≤ cp := by
        rcases ho'.2 with ⟨h', _⟩ | ⟨g', cap', cur, h', _, _, hn', _⟩
        · simp at h'
        · simp only [Value.slice.injEq] at h'
          obtain ⟨_, _, rfl⟩ := h'
          exact hn'
      have ht : wr.cell? ⟨g, r.length, none⟩ = some (ptr ND t) := by
        rw [World.ownsRow.cellAt ho' r.length (by simp)]
        simp
      have hzt : wr.frozen? ⟨g, r.length, none⟩ = false := World.ownsRow.frozenAt ho' r.length
      have hgK : ¬ g = K := fun e => row_ne hr' ho' (by decide) (by rw [← e]; rfl)
      have hKg : ¬ K = g := fun e => hgK e.symm
      have hrl : r.length + 1 ≤ 2000 := by simp at hsl'; omega
      have i1 : (r.length : Int) ≤ 2000 := by omega
      simp only [List.length_cons] at k0 hr' ho' hcp
      have i2 : (r.length : Int) ≤ (cp : Int) := by omega
      have HR := hid hR
      have HO := hid ho'
      have HRR := hid hr'
      clear hR ho' hr'
      cases t with
      | none =>
        have ht' : wr.cell? ⟨g, r.length, none⟩ = some (.pointer none) := ht
        clear ht
        go_wp2_with fail
        go_quiet (fail)
        go_wp2_with fail
        go_region
        all_goals go_wp2_with fail
        go_roundg (gk - 1)
        case rel =>
          refine ⟨r, by have := HG.out; simp at this; omega, nr_pop HR.out HRR.out HO.out _, HP.out, fun c hc => HS.out c (List.mem_cons_of_mem _ hc), by simp at hsl'; omega⟩
        case measure => have := HG.out; simp at this; omega
      | some c =>
        have hcn : c ≤ n := HS.out c (by simp)
        have ht' : wr.cell? ⟨g, r.length, none⟩ = some (.pointer (some ⟨ND, c * 18, none⟩)) := ht
        have hx : wr.cell? ⟨ND, c * 18 + 7, none⟩ = some (ptr ND (next c)) := by
          rw [World.cell?_of_block (HR.out.fr.block ND hND hNK)]
          exact (HL.out c hcn).2
        obtain ⟨q, hq⟩ : ∃ q, q = (next c).map (fun i => (⟨ND, i * 18, none⟩ : Addr)) := ⟨_, rfl⟩
        have hx' : wr.cell? ⟨ND, c * 18 + 7, none⟩ = some (.pointer q) := by rw [hq]; exact hx
        have HQ : Hid (ptr ND (next c) = .pointer q) := hid (by rw [hq]; rfl)
        clear hx hq
        have k1 : wr.cell? ⟨K, 1, none⟩ = some (.pointer none) := HRR.out.cell (i := 1) (by decide)
        have y1 := HRR.out.frozen 1
        have hNg : ¬ ND = g := by omega
        have hNK' : ¬ ND = K := hNK
        clear ht
        go_wp2_with fail
        go_quiet (fail)
        go_wp2_with fail
        go_quiet (fail)
        go_wp2_with fail
        go_ret2
        have T := next_take HR.out hbg HRR.out HO.out (next c) (.pointer q) HQ.out
        refine ⟨(T _ _).1, (T _ _).2.1, ?_⟩
        rw [← HP.out]
        exact ⟨rfl, (T _ _).2.2⟩

end Go.Proofs.Ybulkagui
