/-
  THE WALK of Walker.Next.
-/
import Derived.Test.YbulkaguiBase
namespace Go.Proofs.Ybulkagui
open Go.RowKit Go.Lib

/-- Below base nothing has changed but K. -/
structure KF (base K : Nat) (w w' : World) : Prop where
  os : w'.os = w.os
  tape : w'.tape = w.tape
  output : w'.output = w.output
  size : w.heap.size ≤ w'.heap.size
  block : ∀ i, i < base → i ≠ K → w'.heap[i]? = w.heap[i]?
theorem KF.refl (base K : Nat) (w : World) : KF base K w w := ⟨rfl, rfl, rfl, Nat.le_refl _, fun _ _ _ => rfl⟩
theorem KF.trans {base K : Nat} {w w1 w2 : World} (h : KF base K w w1) (k : KF base K w1 w2) : KF base K w w2 :=
  ⟨k.os.trans h.os, k.tape.trans h.tape, k.output.trans h.output, Nat.le_trans h.size k.size, fun i a b => (k.block i a b).trans (h.block i a b)⟩
theorem KF.grown {base K : Nat} {w w1 w2 : World} {row : Option Nat} (h : KF base K w w1) (g : w1.grownBy w2 row) (hb : base ≤ w1.heap.size) (hr : ∀ k, row = some k → base ≤ k ∨ k = K) : KF base K w w2 :=
  h.trans ⟨g.os, g.tape, g.output, g.size, fun i a b => g.block i (by omega) (fun e => by rcases hr i e.symm with h | h <;> omega)⟩
theorem KF.drewN {base K : Nat} {w w1 : World} (h : KF base K w w1) (n : Nat) : KF base K w (w1.drewN n) := ⟨h.os, h.tape, h.output, h.size, h.block⟩
/-- What is found when the stack's nil tops are popped. -/
def pop : List (Option Nat) → Option (Nat × List (Option Nat))
  | [] => none
  | none :: r => pop r
  | some c :: r => some (c, r)

/-- The Walker in its loop. -/
structure NR (w0 : World) (base K ND : Nat) (st : List (Option Nat)) (w : World) : Prop where
  row : ∃ v, w.rowIs K 43 2 (fun j => if j = 0 then v else .pointer none) ∧ w.ownsRow base 27 1 v st.length (st.reverse.map (ptr ND))
  fr : KF base K w0 w
  sz : base ≤ w.heap.size

/-- What Next leaves. -/
def NextPost (w0 : World) (base K ND : Nat) (next : Nat → Option Nat) (st : List (Option Nat)) (e : Ending) (w : World) : Prop :=
  KF base K w0 w ∧ base ≤ w.heap.size ∧ match pop st with
    | none => e = .returned (.tuple #[.pointer none, .int .i64 0]) ∧ Walk w base K ND [] none
    | some (c, r) => e = .returned (.tuple #[ptr ND (some c), .int .i64 ((r.length + 1 : Nat) : Int)]) ∧ Walk w base K ND (next c :: r) (some c)

theorem nr_pop {w0 wr : World} {base K ND g cp : Nat} {r : List (Option Nat)} (h : NR w0 base K ND (none :: r) wr) (hr : wr.rowIs K 43 2 fun j => if j = 0 then .slice (some ⟨g, 0, none⟩) (r.length + 1) cp else .pointer none)
    (ho : wr.ownsRow base 27 1 (.slice (some ⟨g, 0, none⟩) (r.length + 1) cp) (r.length + 1) ((none :: r).reverse.map (ptr ND))) (m : Nat) :
    NR w0 base K ND r ((wr.drewN m).setCell ⟨K, 0, none⟩ (.slice (some ⟨g, 0, none⟩) r.length cp)) := by
  have ho' : (wr.drewN m).ownsRow base 27 1 (.slice (some ⟨g, 0, none⟩) r.length cp) r.length (r.reverse.map (ptr ND)) := by
    refine ownsRow_pop (last := [ptr ND none]) (by simp) ?_
    have h2 : wr.ownsRow base 27 1 (.slice (some ⟨g, 0, none⟩) (r.length + 1) cp) (r.length + 1) (r.reverse.map (ptr ND) ++ [ptr ND none]) := by simpa using ho
    exact h2
  have hr' : (wr.drewN m).rowIs K 43 2 fun j => if j = 0 then .slice (some ⟨g, 0, none⟩) (r.length + 1) cp else .pointer none := hr
  refine ⟨⟨.slice (some ⟨g, 0, none⟩) r.length cp, (hr'.set 0 _).congr (fun i hi => ?_), own_set ho' (row_ne hr' ho' (by decide))⟩, (h.fr.drewN m).grown (grown_set1 _ K 0 _) h.sz (fun k hk => by cases hk; exact Or.inr rfl), by simp [World.setCell]; exact h.sz⟩
  match i, hi with
  | 0, _ => rfl
  | 1, _ => rfl

theorem next_take {w0 wr : World} {base K ND g cp c : Nat} {r : List (Option Nat)} (h : NR w0 base K ND (some c :: r) wr) (hbg : base ≤ g) (hr : wr.rowIs K 43 2 fun j => if j = 0 then .slice (some ⟨g, 0, none⟩) (r.length + 1) cp else .pointer none)
    (ho : wr.ownsRow base 27 1 (.slice (some ⟨g, 0, none⟩) (r.length + 1) cp) (r.length + 1) ((some c :: r).reverse.map (ptr ND))) (nx : Option Nat) (pq : Value) (hq : ptr ND nx = pq) (a b : Nat) :
    KF base K w0 ((((wr.drewN a).setCell ⟨K, 1, none⟩ (.pointer (some ⟨ND, c * 18, none⟩))).setCell ⟨g, r.length, none⟩ pq).drewN b) ∧ base ≤ ((((wr.drewN a).setCell ⟨K, 1, none⟩ (.pointer (some ⟨ND, c * 18, none⟩))).setCell ⟨g, r.length, none⟩ pq).drewN b).heap.size ∧
      Walk ((((wr.drewN a).setCell ⟨K, 1, none⟩ (.pointer (some ⟨ND, c * 18, none⟩))).setCell ⟨g, r.length, none⟩ pq).drewN b) base K ND (nx :: r) (some c) := by
  have ho0 : (wr.drewN a).ownsRow base 27 1 (.slice (some ⟨g, 0, none⟩) (r.length + 1) cp) (r.length + 1) ((some c :: r).reverse.map (ptr ND)) := ho
  have hr0 : (wr.drewN a).rowIs K 43 2 fun j => if j = 0 then .slice (some ⟨g, 0, none⟩) (r.length + 1) cp else .pointer none := hr
  have hne0 := row_ne hr0 ho0 (by decide)
  have ho1 := own_set (o := 1) (u := .pointer (some ⟨ND, c * 18, none⟩)) ho0 hne0
  obtain ⟨ho2, hg2⟩ := World.ownsRow.stored ho1 r.length pq
  have hr1 := (hr0.set 1 (.pointer (some ⟨ND, c * 18, none⟩))).setOther (a := ⟨g, r.length, none⟩) (show K ≠ g from fun e => hne0 (by rw [e]; rfl)) pq
  have sz1 : base ≤ ((wr.drewN a).setCell ⟨K, 1, none⟩ (.pointer (some ⟨ND, c * 18, none⟩))).heap.size := by simp [World.setCell]; exact h.sz
  have f1 : KF base K w0 ((wr.drewN a).setCell ⟨K, 1, none⟩ (.pointer (some ⟨ND, c * 18, none⟩))) := (h.fr.drewN a).grown (grown_set1 _ K 1 _) h.sz (fun k hk => by cases hk; exact Or.inr rfl)
  have f2 := f1.grown hg2 sz1 (fun k hk => by cases hk; exact Or.inl hbg)
  refine ⟨f2.drewN b, Nat.le_trans sz1 hg2.size, ⟨⟨.slice (some ⟨g, 0, none⟩) (r.length + 1) cp, ?_, ?_⟩⟩⟩
  · refine World.rowIs.congr (w := _) hr1 (fun i hi => ?_)
    match i, hi with
    | 0, _ => rfl
    | 1, _ => rfl
  · have e : ((some c :: r).reverse.map (ptr ND)).set r.length pq = (nx :: r).reverse.map (ptr ND) := by
      subst hq
      simp
    rw [e] at ho2
    exact ho2

set_option maxRecDepth 100000 in
set_option maxHeartbeats 2000000 in
/-- Next behind nothing (last is nil). -/
theorem next_nil (base K ND n : Nat) (first next : Nat → Option Nat) (st : List (Option Nat)) (w : World) (h : Walk w base K ND st none) (hb : base ≤ w.heap.size) (hL : Links w ND n first next) (hND : ND < base) (hNK : ND ≠ K) (hst : ∀ c, some c ∈ st → c ≤ n) (hsl : st.length ≤ 2000) :
    Calls Yba.prog 5 #[.pointer (some ⟨K, 0, none⟩)] w (NextPost w base K ND next st) := by
  obtain ⟨v, hr, ho⟩ := h.row
  have c0 : w.cell? ⟨K, 0, none⟩ = some v := hr.cell (i := 0) (by decide)
  have c1 : w.cell? ⟨K, 1, none⟩ = some (.pointer none) := hr.cell (i := 1) (by decide)
  have z1 := hr.frozen 1
  have z0 := hr.frozen 0
  have R0 : NR w base K ND st (w.setCell ⟨K, 1, none⟩ (.pointer none)) := by
    refine ⟨⟨v, (hr.set 1 _).congr (fun i hi => ?_), own_set ho (row_ne hr ho (by decide))⟩, (KF.refl _ _ _).grown (grown_set1 w K 1 _) hb (fun k hk => by cases hk; exact Or.inr rfl), by simp [World.setCell]; exact hb⟩
    match i, hi with
    | 0, _ => rfl
    | 1, _ => rfl
  have HR0 := hid R0
  have HL := hid hL
  have HST := hid hst
  clear R0 hL h ho hst
  go_enter Yba.func5, Yba.ntmps5
  go_wp2_with fail
  go_loopg [4] (st.length + 1) (fun g t wl => ∃ s : List (Option Nat), s.length + 1 = g ∧ NR w base K ND s wl ∧ pop s = pop st ∧ (∀ c, some c ∈ s → c ≤ n) ∧ s.length ≤ st.length)
  case atStart => exact ⟨st, rfl, HR0.out, rfl, HST.out, Nat.le_refl _⟩
  case round =>
    obtain ⟨s, hg, hR, hp, hs, hsl'⟩ := hrel
    have HP := hid hp
    have HS := hid hs
    have HG := hid hg
    clear hp hs hg c0 c1 z1 z0 HR0 hr
    obtain ⟨v', hr', ho'⟩ := hR.row
    have k0 : wr.cell? ⟨K, 0, none⟩ = some v' := hr'.cell (i := 0) (by decide)
    have y0 := hr'.frozen 0
    cases s with
    | nil =>
      obtain ⟨q, cq, rfl⟩ : ∃ q cq, v' = .slice q 0 cq := by
        rcases ho'.2 with ⟨hv, _⟩ | ⟨g', cap', cur, hv, _⟩
        · exact ⟨none, 0, hv⟩
        · exact ⟨some ⟨g', 0, none⟩, cap', hv⟩
      have HR := hid hR
      clear hR
      go_wp2_with fail
      go_ret2
      refine ⟨HR.out.fr, HR.out.sz, ?_⟩
      rw [← HP.out]
      exact ⟨rfl, ⟨⟨_, hr', ho'⟩⟩⟩
    | cons t r =>
      obtain ⟨g, cp, hv, hbg, hlt⟩ := ho'.form (by simp)
      subst hv
      have hcp : (t :: r).length ≤ cp := by
        rcases ho'.2 with ⟨h', _⟩ | ⟨g', cap', cur, h', _, _, hn', _⟩
        · simp at h'
        · simp only [Value.slice.injEq] at h'
          obtain ⟨_, _, rfl⟩ := h'
          exact hn'
      have ht : wr.cell? ⟨g, r.length, none⟩ = some (ptr ND t) := by
        rw [World.ownsRow.cellAt ho' r.length (by simp)]
        simp
      have hzt : wr.frozen? ⟨g, r.length, none⟩ = false := World.ownsRow.frozenAt ho' r.length
      have hgK : ¬ g = K := fun e => row_ne hr' ho' (by decide) (by rw [← e]; rfl)
      have hKg : ¬ K = g := fun e => hgK e.symm
      have hrl : r.length + 1 ≤ 2000 := by simp at hsl'; omega
      have i1 : (r.length : Int) ≤ 2000 := by omega
      simp only [List.length_cons] at k0 hr' ho' hcp
      have i2 : (r.length : Int) ≤ (cp : Int) := by omega
      have HR := hid hR
      have HO := hid ho'
      have HRR := hid hr'
      clear hR ho' hr'
      cases t with
      | none =>
        have ht' : wr.cell? ⟨g, r.length, none⟩ = some (.pointer none) := ht
        clear ht
        go_wp2_with fail
        go_quiet (fail)
        go_wp2_with fail
        go_region
        all_goals go_wp2_with fail
        go_roundg (gk - 1)
        case rel =>
          refine ⟨r, by have := HG.out; simp at this; omega, nr_pop HR.out HRR.out HO.out _, HP.out, fun c hc => HS.out c (List.mem_cons_of_mem _ hc), by simp at hsl'; omega⟩
        case measure => have := HG.out; simp at this; omega
      | some c =>
        have hcn : c ≤ n := HS.out c (by simp)
        have ht' : wr.cell? ⟨g, r.length, none⟩ = some (.pointer (some ⟨ND, c * 18, none⟩)) := ht
        have hx : wr.cell? ⟨ND, c * 18 + 7, none⟩ = some (ptr ND (next c)) := by
          rw [World.cell?_of_block (HR.out.fr.block ND hND hNK)]
          exact (HL.out c hcn).2
        obtain ⟨q, hq⟩ : ∃ q, q = (next c).map (fun i => (⟨ND, i * 18, none⟩ : Addr)) := ⟨_, rfl⟩
        have hx' : wr.cell? ⟨ND, c * 18 + 7, none⟩ = some (.pointer q) := by rw [hq]; exact hx
        have HQ : Hid (ptr ND (next c) = .pointer q) := hid (by rw [hq]; rfl)
        clear hx hq
        have k1 : wr.cell? ⟨K, 1, none⟩ = some (.pointer none) := HRR.out.cell (i := 1) (by decide)
        have y1 := HRR.out.frozen 1
        have hNg : ¬ ND = g := by omega
        have hNK' : ¬ ND = K := hNK
        clear ht
        go_wp2_with fail
        go_quiet (fail)
        go_wp2_with fail
        go_quiet (fail)
        go_wp2_with fail
        go_ret2
        have T := next_take HR.out hbg HRR.out HO.out (next c) (.pointer q) HQ.out
        refine ⟨(T _ _).1, (T _ _).2.1, ?_⟩
        rw [← HP.out]
        exact ⟨rfl, (T _ _).2.2⟩

end Go.Proofs.Ybulkagui
