/-
  THE WALK of LawS1623AOptions.
-/
import Derived.Test.YbulkagoyFmtBegin
namespace Go.Proofs.YbulkagoyFmt
open Go.RowKit Go.MuLone Go.Lib

def opts (t : Nat → Int) (L m : Nat) : List Value := (List.range m).map (optV t L)
theorem opts_succ (t : Nat → Int) (L m : Nat) : opts t L (m + 1) = opts t L m ++ [optV t L m] := by simp [opts, List.range_succ]

/-- The world in the second loop: m options stand in the slice at block G. -/
structure Mid (w0 w : World) (L B : Nat) (k : Int) (t : Nat → Int) (m G c : Nat) : Prop where
  mg : MG w B k
  rL : w.rowIs L 79 2 (fun j => if j = 0 then .slice none 0 0 else .slice none 0 0)
  own : w.ownsRow (L + 1) 86 1 (.slice (some ⟨G, 0, none⟩) m c) m (opts t L m)
  bel : Below w0.heap.size w0 w
  lo : w0.heap.size < L
  BL : B < L
  sz : L + 1 ≤ w.heap.size

theorem lg_new (w : World) : (w.alloc (.cells #[.slice none 0 0, .slice none 0 0] 79)).rowIs w.heap.size 79 2 (fun j => if j = 0 then .slice none 0 0 else .slice none 0 0) := by
  refine World.rowIs_alloc w #[.slice none 0 0, .slice none 0 0] 79 _ (fun i hi => ?_)
  have hi' : i < 2 := hi
  match i, hi' with
  | 0, _ => rfl
  | 1, _ => rfl

theorem start2 {w wr w2 : World} {B : Nat} {k : Int} {t : Nat → Int} {len : Nat} (hM : MG wr B k) (hB : Below w.heap.size w wr) (hg : (wr.alloc (.cells #[.slice none 0 0, .slice none 0 0] 79)).grownBy w2 none) (hw : w.heap.size < wr.heap.size)
    (hown : w2.ownsRow (wr.heap.size + 1) 86 1 (.slice (some ⟨wr.heap.size + 1, 0, none⟩) 0 len) 0 []) : Mid w w2 wr.heap.size B k t 0 (wr.heap.size + 1) len := by
  obtain ⟨f, hf, f7, f19⟩ := hM
  have hBw := hf.lt
  have hs : (wr.alloc (.cells #[.slice none 0 0, .slice none 0 0] 79)).heap.size = wr.heap.size + 1 := by simp
  refine ⟨⟨f, (hf.alloc _).of_block (hg.block B (by rw [hs]; omega) (by simp)), f7, f19⟩, (lg_new wr).of_block (hg.block wr.heap.size (by rw [hs]; omega) (by simp)), hown, ?_, hw, hBw, by have := hg.size; rw [hs] at this; exact this⟩
  exact (hB.alloc hB.size _).grown hg (by rw [hs]; omega) (by intro _ h; cases h)

theorem Mid.step {w0 w w3 : World} {L B m G c g1 cap1 : Nat} {k : Int} {t : Nat → Int} (h : Mid w0 w L B k t m G c) (own1 : w3.ownsRow (L + 1) 86 1 (.slice (some ⟨g1, 0, none⟩) (m + 1) cap1) (m + 1) (opts t L m ++ [optV t L m]))
    (gr1 : w.grownBy w3 (Value.slice (some ⟨G, 0, none⟩) m c).ownBlock) : Mid w0 w3 L B k t (m + 1) g1 cap1 := by
  have hGl := (h.own.lt G rfl).1
  have gr : w.grownBy w3 (some G) := gr1
  obtain ⟨f, hf, f7, f19⟩ := h.mg
  have hBL := h.BL
  have hlo := h.lo
  have hsz := h.sz
  refine ⟨⟨f, hf.of_block (gr.block B hf.lt (by intro e; injection e with e; omega)), f7, f19⟩, h.rL.of_block (gr.block L h.rL.lt (by intro e; injection e with e; omega)), by rw [opts_succ]; exact own1, h.bel.grown gr (by omega) (by intro q hq; injection hq with hq; omega), hlo, hBL, Nat.le_trans hsz gr.size⟩

theorem own_cap {w : World} {base g n cap : Nat} {e : TypeId} {xs : List Value} (h : w.ownsRow base e 1 (.slice (some ⟨g, 0, none⟩) n cap) n xs) : n ≤ cap := by
  rcases h.2 with ⟨h', _⟩ | ⟨g', cap', cur, h', _, _, hn, _⟩
  · simp at h'
  · simp only [Value.slice.injEq] at h'
    obtain ⟨_, _, rfl⟩ := h'
    exact hn

theorem far_cell {w w' : World} {a : Addr} {v : Value} (hg : w.grownBy w' none) (h : w.cell? a = some v) : w'.cell? a = some v := by
  have hlt : a.block < w.heap.size := by
    rcases Nat.lt_or_ge a.block w.heap.size with h1 | h1
    · exact h1
    · exfalso
      unfold World.cell? at h
      rw [Array.getElem?_eq_none h1] at h
      simp at h
  rw [hg.cell_far a hlt (by simp)]
  exact h

theorem info48 : (Ybaf.prog.info? 48).isSome = true := by kernel_rfl

/-- How an owned slice reads. -/
theorem slice_view {w : World} {base n : Nat} {e : TypeId} {v : Value} {xs : List Value} (h : w.ownsRow base e 1 v n xs) :
    ∃ p c g, v = .slice p n c ∧ (n ≠ 0 → p = some ⟨g, 0, none⟩) ∧ ∀ j, j < n → w.cell? ⟨g, j, none⟩ = xs[j]? := by
  rcases h.2 with ⟨h', h0⟩ | ⟨g', cap', cur, h', _, _, hn, _⟩
  · subst h0
    exact ⟨none, 0, 0, h', fun h => absurd rfl h, fun j hj => absurd hj (by omega)⟩
  · subst h'
    exact ⟨some ⟨g', 0, none⟩, cap', g', rfl, fun _ => rfl, fun j hj => World.ownsRow.cellAt h j (by omega)⟩

theorem end_below {w0 wr u4 w4 : World} {L B m G c : Nat} {k id : Int} {t : Nat → Int} (hS : Mid w0 wr L B k t m G c) (hD : Done u4 w4 (wr.heap.size + 1) L wr.heap.size B id t m) (hg : wr.grownBy u4 (some B)) (hB : w0.heap.size ≤ B) : Below w0.heap.size w0 w4 := by
  have hlo := hS.lo
  have hsz := hS.sz
  have h1 : Below w0.heap.size w0 u4 := hS.bel.grown hg (by omega) (by intro q hq; injection hq with hq; omega)
  exact ⟨hD.fr.os.trans h1.os, hD.fr.tape.trans h1.tape, hD.fr.output.trans h1.output, Nat.le_trans h1.size hD.fr.size, fun i hi => (hD.fr.block i (by omega) (by omega) (by omega)).trans (h1.block i hi)⟩

set_option maxRecDepth 100000 in
set_option maxHeartbeats 4000000 in
theorem opt_walk (ad : Option Addr) (b off len cap pre : Nat) (t : Nat → Int) (w : World) (hl : len ≤ 1024) (hpre : pre ≤ 255) (had : len ≠ 0 → ad = some ⟨b, off, none⟩)
    (hx : ∀ j, j < len → w.cell? ⟨b, off + j, none⟩ = some (.int .u64 (t j))) (hbw : len ≠ 0 → b < w.heap.size) :
    Calls Ybaf.prog 4 #[.int .u8 pre, .slice ad len cap] w fun e w' => e = .returned (.bool true) ∧ Below w.heap.size w w' := by
  have hl1 : ¬ (1024 : Int) < (len : Int) := by omega
  have HX := hid hx
  have HAD := hid had
  have HBW := hid hbw
  clear hx had hbw
  go_enter Ybaf.func4, Ybaf.ntmps4
  go_wp2_with fail
  refine (newManager w).mono ?_
  rintro _ w1 ⟨rfl, M1, B1⟩
  go_wp2_with fail
  go_loopg [6] pre (fun g i wr => ∃ k : Nat, k + g = pre ∧ i = .int .i64 k ∧ MG wr (w.heap.size + 1) k ∧ Below w.heap.size w wr)
  case atStart => exact ⟨0, by omega, rfl, M1, B1⟩
  case round =>
    obtain ⟨k, hk, rfl, hM, hB⟩ := hrel
    have HK : Hid (k + gk = pre) := hk
    clear hk M1 B1
    by_cases hlt : k < pre
    · have hlt' : (k : Int) < (pre : Int) := by omega
      go_wp2_with fail
      refine (begin_none (w.heap.size + 1) k wr hM (by omega) (by omega)).mono ?_
      rintro _ w2 ⟨rfl, hM2, hT2, hg2⟩
      have hB2 : Below w.heap.size w w2 := below_of_grown hB hB.size hg2 (by omega)
      clear hM hg2 hT2
      go_wp2_with fail
      go_roundg (gk - 1)
      case rel => exact ⟨k + 1, by have := HK.out; omega, by go_num, by exact_mod_cast hM2, hB2⟩
      case measure => have := HK.out; omega
    · have hkn : k = pre := by have := HK.out; omega
      subst hkn
      have HM := hid hM
      have HB := hid hB
      have hsz1 : w.heap.size + 1 < wr.heap.size := by obtain ⟨f, hf, _⟩ := hM; exact hf.lt
      clear hM hB HK
      have hz : ¬ (k : Int) < (k : Int) := by omega
      obtain ⟨i6, hi6, hz60, hz61, hz62⟩ := info_parts info86
      go_wp2_with (at_make; refine wpList_make_own _ rfl _ _ 80 rfl (wr.heap.size + 1) 86 i6 .nilIface 1 Ybaf.underlying80 hi6 hz60 hz61 .i64 .i64 (len : Int) len rfl rfl rfl (by rw [hz62]; omega) (by unfold maxLen; omega) (by simp) ?_; intro w2 hown hgrow)
      have S2 := start2 (t := t) HM.out HB.out hgrow (by omega) (by simpa using hown)
      have HS2 := hid S2
      clear S2 hown hgrow hi6 hz60 hz61 hz62 HM HB
      obtain ⟨L, hLe⟩ : ∃ L, L = wr.heap.size := ⟨_, rfl⟩
      obtain ⟨B, hBe⟩ : ∃ B, B = w.heap.size + 1 := ⟨_, rfl⟩
      rw [← hLe, ← hBe] at HS2 hsz1 ⊢
      have hBw : w.heap.size ≤ B := by omega
      clear hLe hBe
      go_loopg [8, 34] len (fun g v i ws => ∃ m G c : Nat, m + g = len ∧ i = .int .i64 m ∧ v = .slice (some ⟨G, 0, none⟩) m c ∧ Mid w ws L B k t m G c)
      case atStart => exact ⟨0, L + 1, len, by omega, rfl, rfl, HS2.out⟩
      case round =>
        obtain ⟨m, G, c, hm, rfl, rfl, hS⟩ := hrel
        have HK2 := hid hm
        clear hm HS2
        by_cases hml : m < len
        · have hml' : (m : Int) < (len : Int) := by omega
          have hade := HAD.out (by omega)
          subst hade
          have hel : wr.cell? ⟨b, off + m, none⟩ = some (.int .u64 (t m)) := by
            rw [World.cell?_of_block (hS.bel.block b (HBW.out (by omega)))]
            exact HX.out m hml
          have HS := hid hS
          clear hS
          go_wp2_with (at_builtin; (refine app_one (w := wr) rfl _ _ 80 86 rfl .nilIface 16 Ybaf.underlying80 info86 rfl (by decide) (L + 1) (.slice (some ⟨G, 0, none⟩) m c) (opts t L m) (optV t L m) m rfl rfl rfl HS.out.own HS.out.sz (by omega) ?_); intro g1 cap1 w3 own1 gr1 _ hg1 _)
          have HS3 := hid (HS.out.step own1 gr1)
          clear HS own1 gr1
          go_roundg (gk - 1)
          case rel => exact ⟨m + 1, g1, cap1, by have := HK2.out; omega, by go_num, rfl, HS3.out⟩
          case measure => have := HK2.out; omega
        · have hmn : m = len := by have := HK2.out; omega
          subst hmn
          have hz2 : ¬ (m : Int) < (m : Int) := by omega
          go_wp2_with fail
          refine (begin_opts B L G m c k t wr hS.mg (by omega) (by omega) hl hS.rL (hS.own.lt G rfl).2 (by have := (hS.own.lt G rfl).1; omega) (by have := (hS.own.lt G rfl).1; have := hS.BL; omega) ?_ (own_cap hS.own)).mono ?_
          · intro j hj
            rw [World.ownsRow.cellAt hS.own j (by omega)]
            simp [opts, hj]
          rintro _ w4 ⟨rfl, hM4, u4, hD4, hg4⟩
          have HBel := hid (end_below hS hD4 hg4 hBw)
          obtain ⟨T, hTe⟩ : ∃ T, T = wr.heap.size := ⟨_, rfl⟩
          rw [← hTe] at hD4 ⊢
          clear hTe
          obtain ⟨f, hf, f7, f19⟩ := hM4
          have c19 : w4.cell? ⟨B, 19, none⟩ = some (.int .u64 (k + 1)) := by rw [hf.cell (by decide), f19]
          obtain ⟨t0, t1, t2, t3, t4⟩ := tx_cells hD4.tx
          obtain ⟨vi, vt, rL, oi, ot⟩ := hD4.rows
          obtain ⟨pi, ci, gi, rfl, hpi, hci⟩ := slice_view oi
          obtain ⟨pt, ct, gt, rfl, hpt, hct⟩ := slice_view ot
          have l0 : w4.cell? ⟨L, 0, none⟩ = some (.slice pi m ci) := rL.cell (by decide)
          have l1 : w4.cell? ⟨L, 1, none⟩ = some (.slice pt m ct) := rL.cell (by decide)
          obtain ⟨j2, hj2⟩ := Option.isSome_iff_exists.1 info72
          have HJ := hid hj2
          obtain ⟨j3, hj3⟩ := Option.isSome_iff_exists.1 info48
          have HJ3 := hid hj3
          have HPI := hid hpi
          have HPT := hid hpt
          have HCI := hid hci
          have HCT := hid hct
          have k1 : ((k : Int) + 1 == (k : Int) + 1) = true := by simp
          clear hpi hpt hci hct hj2 hj3 rL oi ot hD4 hg4 hS f7 f19 hf
          go_wp2_with fail
          rw [run_neq_ptr_same _ _ Ybaf.underlying23 HJ.out]
          go_wp2_with fail
          go_loopg [12] m (fun g i wl => ∃ j : Nat, j + g = m ∧ i = .int .i64 j ∧ w4.grownBy wl none)
          case atStart => exact ⟨0, by omega, rfl, World.grownBy.refl _ _⟩
          case round =>
            obtain ⟨j, hj, rfl, hgl⟩ := hrel
            have HK3 := hid hj
            have HGL := hid hgl
            clear hj
            have L0 := far_cell hgl l0
            have L1 := far_cell hgl l1
            by_cases hjm : j < m
            · have hjm' : (j : Int) < (m : Int) := by omega
              have e1 := HPI.out (by omega)
              have e2 := HPT.out (by omega)
              subst e1 e2
              have ei : w4.cell? ⟨gi, j, none⟩ = some (.int .i64 j) := by rw [HCI.out j hjm]; simp [idxs, hjm]
              have et : w4.cell? ⟨gt, j, none⟩ = some (.pointer (some ⟨T, 0, none⟩)) := by rw [HCT.out j hjm]; simp [ptrs, hjm]
              have Ei := far_cell hgl ei
              have Et := far_cell hgl et
              clear ei et hgl c19 t0 t1 t2 t3 t4 l0 l1
              go_wp2_with fail
              rw [run_neq_ptr_same _ _ Ybaf.underlying32 HJ3.out]
              go_wp2_with fail
              go_roundg (gk - 1)
              case rel => exact ⟨j + 1, by have := HK3.out; omega, by go_num, HGL.out⟩
              case measure => have := HK3.out; omega
            · have hjn : j = m := by have := HK3.out; omega
              subst hjn
              have T2 := far_cell hgl t2
              have T3 := far_cell hgl t3
              have T4 := far_cell hgl t4
              clear c19 t0 t1 t2 t3 t4 l0 l1 hgl
              have hz3 : ¬ (j : Int) < (j : Int) := by omega
              cases j with
              | zero =>
                have T4' : wr.cell? ⟨T, 4, none⟩ = some (.int .u64 0) := T4
                clear T4
                go_wp2_with fail
                go_ret
                exact ⟨rfl, HBel.out.grown HGL.out HBel.out.size (by intro _ h; cases h)⟩
              | succ q =>
                have hade := HAD.out (by omega)
                subst hade
                have hel : w4.cell? ⟨b, off + q, none⟩ = some (.int .u64 (t q)) := by
                  rw [World.cell?_of_block (HBel.out.block b (HBW.out (by omega)))]
                  exact HX.out q (by omega)
                have Hel := far_cell HGL.out hel
                clear hel
                have hq : ((q + 1 : Nat) : Int) - 1 = (q : Int) := by omega
                have hq0 : (0 : Int) < ((q + 1 : Nat) : Int) := by omega
                have T4' : wr.cell? ⟨T, 4, none⟩ = some (.int .u64 (t q)) := T4
                clear T4
                go_wp2_with fail
                go_ret
                exact ⟨rfl, HBel.out.grown HGL.out HBel.out.size (by intro _ h; cases h)⟩

set_option maxRecDepth 100000 in
theorem opt_big (ad : Option Addr) (len cap pre : Nat) (w : World) (hm : len ≤ maxLen) (hl : ¬ len ≤ 1024) :
    Calls Ybaf.prog 4 #[.int .u8 pre, .slice ad len cap] w fun e w' => e = .returned (.bool true) ∧ Below w.heap.size w w' := by
  have hl1 : (1024 : Int) < (len : Int) := by omega
  have hl2 : (len : Int) ≤ 9223372036854775807 := by unfold maxLen at hm; omega
  clear hm
  go_enter Ybaf.func4, Ybaf.ntmps4
  go_wp2_with fail
  go_ret
  exact ⟨rfl, Below.refl _ _⟩

end Go.Proofs.YbulkagoyFmt
