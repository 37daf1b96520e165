/-
  THE WALK of Begin with options.
-/
import Derived.Test.YbulkagoyFmtApply
namespace Go.Proofs.YbulkagoyFmt
open Go.RowKit Go.MuLone Go.Lib

/-- The option number j. -/
def optV (t : Nat → Int) (L : Nat) (j : Nat) : Value := .iface 82 (.agg #[.int .i64 j, .int .u64 (t j), .pointer (some ⟨L, 0, none⟩)])

/-- The log's two lists behind k options. -/
def idxs (k : Nat) : List Value := (List.range k).map (fun (j : Nat) => Value.int .i64 j)
def ptrs (T k : Nat) : List Value := List.replicate k (.pointer (some ⟨T, 0, none⟩))
theorem idxs_succ (k : Nat) : idxs (k + 1) = idxs k ++ [.int .i64 k] := by simp [idxs, List.range_succ]
theorem ptrs_succ (T k : Nat) : ptrs T (k + 1) = ptrs T k ++ [.pointer (some ⟨T, 0, none⟩)] := by simp [ptrs, List.replicate_succ']

/-- The tag behind k options. -/
def lastTag (t : Nat → Int) : Nat → Int
  | 0 => 0
  | k + 1 => t k

/-- The world behind k options. -/
structure Done (w0 w : World) (base L T B : Nat) (id : Int) (t : Nat → Int) (k : Nat) : Prop where
  rows : ∃ vi vt, w.rowIs L 79 2 (fun j => if j = 0 then vi else vt) ∧ w.ownsRow base 3 1 vi k (idxs k) ∧ w.ownsRow base 32 1 vt k (ptrs T k)
  tx : TX w T B id (lastTag t k)
  fr : Fr base L T w0 w
  sz : base ≤ w.heap.size

theorem tx_tag {w : World} {T B : Nat} {id a b : Int} (h : w.rowIs T 48 20 (fun j => if j = 4 then .int .u64 b else (txCells B id a).getD j undef)) : TX w T B id b := by
  refine h.congr (fun i hi => ?_)
  match i, hi with
  | 0, _ | 1, _ | 2, _ | 3, _ | 4, _ | 5, _ | 6, _ | 7, _ | 8, _ | 9, _ | 10, _ | 11, _ | 12, _ | 13, _ | 14, _ | 15, _ | 16, _ | 17, _ | 18, _ | 19, _ => rfl
  | q + 20, h => exact absurd h (by omega)

set_option maxRecDepth 100000 in
set_option maxHeartbeats 4000000 in
theorem begin_opts (B L G n cap : Nat) (i : Int) (t : Nat → Int) (w : World) (hM : MG w B i) (hi : 0 ≤ i) (hi2 : i ≤ 100000) (hn : n ≤ 1024)
    (hL : w.rowIs L 79 2 (fun j => if j = 0 then .slice none 0 0 else .slice none 0 0))
    (hG : G < w.heap.size) (hGL : G ≠ L) (hGB : G ≠ B) (ho : ∀ j, j < n → w.cell? ⟨G, j, none⟩ = some (optV t L j)) (hcap : n ≤ cap) :
    Calls Ybaf.prog 6 #[.pointer (some ⟨B, 0, none⟩), .slice (some ⟨G, 0, none⟩) n cap] w fun e w' => e = .returned (.pointer (some ⟨w.heap.size, 0, none⟩)) ∧ MG w' B (i + 1) ∧ ∃ u, Done u w' (w.heap.size + 1) L w.heap.size B (i + 1) t n ∧ w.grownBy u (some B) := by
  obtain ⟨f, hf, f7, f19⟩ := hM
  have hne : w.heap.size ≠ B := by have := hf.lt; omega
  have hLB : L ≠ B := by
    intro h
    obtain ⟨c, hc, _⟩ := hL
    obtain ⟨c', hc', _⟩ := hf
    rw [h, hc'] at hc
    injection hc with hc
    injection hc with _ h2 _
    exact absurd h2 (by decide)
  have hLw := hL.lt
  have hBw := hf.lt
  have c7 : w.cell? ⟨B, 7, none⟩ = some (.int .i32 0) := by rw [hf.cell (by decide), f7]
  have c19 : w.cell? ⟨B, 19, none⟩ = some (.int .u64 i) := by rw [hf.cell (by decide), f19]
  have z7 := hf.frozen 7
  have z19 := hf.frozen 19
  obtain ⟨u, hu, ⟨g, hg, g7, g19⟩, hT, hgr⟩ := begin_mid (i := i) hf
  simp only [txCells] at hu
  go_enter Ybaf.func6, Ybaf.ntmps6
  go_wp2_with (go_at_call 8; refine (lock_free Ybaf.muLib ⟨B, 7, none⟩ _ c7 z7).mono ?_; rintro e w' ⟨rfl, rfl⟩)
  rw [← hu]
  have hus : w.heap.size + 1 ≤ u.heap.size := by rw [hu]; simp [World.setCell]
  clear hu c7 c19 z7 z19 f7 f19 hf
  refine (unlock_held Ybaf.muLib ⟨B, 7, none⟩ u (by rw [hg.cell (by decide), g7]) (hg.frozen 7)).mono ?_
  rintro _ _ ⟨rfl, rfl⟩
  have hM' : MG (u.setCell ⟨B, 7, none⟩ (.int .i32 0)) B (i + 1) := ⟨_, hg.set 7 _, rfl, g19⟩
  have hT' : TX (u.setCell ⟨B, 7, none⟩ (.int .i32 0)) w.heap.size B (i + 1) 0 := World.rowIs.setOther hT hne _
  have hG' := grown_set hgr 7 (.int .i32 0)
  have hus' : w.heap.size + 1 ≤ (u.setCell ⟨B, 7, none⟩ (.int .i32 0)).heap.size := by simp [World.setCell]; exact hus
  obtain ⟨u', hu'⟩ : ∃ u', u' = u.setCell ⟨B, 7, none⟩ (.int .i32 0) := ⟨_, rfl⟩
  rw [← hu'] at hM' hT' hG' hus' ⊢
  clear hu' hT hgr hg g7 g19 hus
  have hL' : u'.rowIs L 79 2 (fun j => if j = 0 then .slice none 0 0 else .slice none 0 0) := hL.of_block (hG'.block L hLw (by intro h; injection h with h; exact hLB h))
  have ho' : ∀ j, j < n → u'.cell? ⟨G, j, none⟩ = some (optV t L j) := fun j hj => by
    rw [hG'.cell_far ⟨G, j, none⟩ hG (by intro h; injection h with h; exact hGB h)]
    exact ho j hj
  have D0 : Done u' u' (w.heap.size + 1) L w.heap.size B (i + 1) t 0 := ⟨⟨_, _, hL', World.ownsRow_nil _ _ _ _, World.ownsRow_nil _ _ _ _⟩, hT', Fr.refl _ _ _ _, hus'⟩
  have HO' := hid ho'
  have HD0 := hid D0
  have HM' := hid hM'
  have HG' := hid hG'
  clear ho ho' hL hL' D0 hT' hM' hG'
  go_wp2_with fail
  go_loopg [32] n (fun g k wr => ∃ m : Nat, m + g = n ∧ k = .int .i64 m ∧ Done u' wr (w.heap.size + 1) L w.heap.size B (i + 1) t m)
  case atStart => exact ⟨0, by omega, rfl, HD0.out⟩
  case round =>
    obtain ⟨m, hm, rfl, hD⟩ := hrel
    have HK := hid hm
    clear hm HD0
    by_cases hlt : m < n
    · have hlt' : (m : Int) < (n : Int) := by omega
      have hel : wr.cell? ⟨G, m, none⟩ = some (.iface 82 (.agg #[.int .i64 m, .int .u64 (t m), .pointer (some ⟨L, 0, none⟩)])) := by
        rw [World.cell?_of_block (hD.fr.block G (by omega) hGL (by omega))]
        exact HO'.out m hlt
      go_wp2_with fail
      obtain ⟨vi, vt, hrL, hoi, hot⟩ := hD.rows
      refine (apply_any (w.heap.size + 1) L w.heap.size m (t m) vi vt _ _ _ wr hrL hD.tx hoi hot (by omega) hD.sz (by omega) (by omega)).mono ?_
      rintro _ w3 ⟨rfl, vi', vt', a1, a2, a3, a4, a5, a6⟩
      have hD3 : Done u' w3 (w.heap.size + 1) L w.heap.size B (i + 1) t (m + 1) := ⟨⟨vi', vt', a1, by rw [idxs_succ]; exact a3, by rw [ptrs_succ]; exact a4⟩, tx_tag a2, hD.fr.trans a5, a6⟩
      have HD3 := hid hD3
      clear hD hD3 a1 a2 a3 a4 a5 a6 hrL hoi hot hel
      go_wp2_with fail
      go_roundg (gk - 1)
      case rel => exact ⟨m + 1, by have := HK.out; omega, by go_num, HD3.out⟩
      case measure => have := HK.out; omega
    · have hmn : m = n := by have := HK.out; omega
      subst hmn
      have hz : ¬ (m : Int) < (m : Int) := by omega
      have HD := hid hD
      clear hD
      go_wp2_with fail
      go_ret
      obtain ⟨q, hq, q7, q19⟩ := HM'.out
      exact ⟨rfl, ⟨q, hq.of_block (HD.out.fr.block B (by omega) (Ne.symm hLB) (Ne.symm hne)), q7, q19⟩, u', HD.out, HG'.out⟩

end Go.Proofs.YbulkagoyFmt
