/-
  WALKER.NEXT, by what is still to come.
-/
import Derived.Test.YbulkaguiNext2
import Derived.Test.YbulkaguiBuild
namespace Go.Proofs.Ybulkagui
open Go.RowKit Go.Lib

/-- The walker, with what is still to come. -/
structure St (w : World) (base K ND n : Nat) (kids : Nat → List Nat) (next : Nat → Option Nat) (sk : Nat → Bool) (L : List (List Nat)) (last : Option Nat) (rem : List (Nat × Nat)) : Prop where
  walk : Walk w base K ND (heads L) last
  good : Good n next L
  len : L.length ≤ n + 1
  lst : ∀ u, last = some u → u ≤ n ∧ L.length ≤ u
  todo0 : last = none → Rem kids sk L rem
  todo1 : ∀ u, last = some u → Rem kids sk (kids u :: L) rem

theorem next_go {base K ND n : Nat} {kids : Nat → List Nat} {next : Nat → Option Nat} {sk : Nat → Bool} {L : List (List Nat)} {last : Option Nat} {rem : List (Nat × Nat)} {w : World} (h : St w base K ND n kids next sk L last rem)
    (hb : base ≤ w.heap.size) (hL : Links w ND n (fun v => (kids v).head?) next) (hND : ND < base) (hNK : ND ≠ K) (hn : n ≤ 1500) (hk : ∀ v c, c ∈ kids v → v < c ∧ c ≤ n) (hsib : ∀ v, Sib next (kids v)) :
    ∃ E, Rem kids sk E rem ∧ Good n next E ∧ Calls Yba.prog 5 #[.pointer (some ⟨K, 0, none⟩)] w (NextPost w base K ND next (heads E)) := by
  have hle := h.len
  have hhl : (heads L).length ≤ 1600 := by rw [heads_len]; omega
  cases last with
  | none => exact ⟨L, h.todo0 rfl, h.good, next_nil base K ND n _ next (heads L) w h.walk hb hL hND hNK (heads_le h.good) (by omega)⟩
  | some u =>
    have hu := h.lst u rfl
    have hr := h.todo1 u rfl
    cases hku : kids u with
    | nil =>
      rw [hku] at hr
      refine ⟨L, ?_, h.good, next_leaf base K ND n u _ next (heads L) w h.walk hu.1 (by simp [hku]) hb hL hND hNK (heads_le h.good) (by omega)⟩
      cases hr with
      | cons ha hb =>
        cases ha with
        | nil d => exact hb
    | cons c r =>
      rw [hku] at hr
      have hg : Good n next ((c :: r) :: L) := by
        refine ⟨fun x hx => ?_, by rw [← hku]; exact hsib u, h.good⟩
        have := hk u x (by rw [hku]; exact hx)
        omega
      exact ⟨(c :: r) :: L, hr, hg, next_push base K ND n u c _ next (heads L) w h.walk hu.1 (hg.1 c (by simp)).2 (by simp [hku]) hb hL hND hNK (heads_le h.good) (by omega)⟩

theorem next_any {base K ND n c d : Nat} {kids : Nat → List Nat} {next : Nat → Option Nat} {sk : Nat → Bool} {L : List (List Nat)} {last : Option Nat} {rest : List (Nat × Nat)} {w : World} (h : St w base K ND n kids next sk L last ((c, d) :: rest))
    (hb : base ≤ w.heap.size) (hL : Links w ND n (fun v => (kids v).head?) next) (hND : ND < base) (hNK : ND ≠ K) (hn : n ≤ 1500) (hk : ∀ v c, c ∈ kids v → v < c ∧ c ≤ n) (hsib : ∀ v, Sib next (kids v)) :
    Calls Yba.prog 5 #[.pointer (some ⟨K, 0, none⟩)] w fun e w' => e = .returned (.tuple #[.pointer (some ⟨ND, c * 18, none⟩), .int .i64 (d : Int)]) ∧ KF base K w w' ∧ base ≤ w'.heap.size ∧ c ≤ n ∧
      ∃ L', Walk w' base K ND (heads L') (some c) ∧ Good n next L' ∧ L'.length ≤ c ∧ (sk c = true → Rem kids sk L' rest) ∧ (sk c = false → Rem kids sk (kids c :: L') rest) := by
  obtain ⟨E, hr, hg, hc⟩ := next_go h hb hL hND hNK hn hk hsib
  refine hc.mono ?_
  intro e w' hp
  obtain ⟨l, r, h1, h2, h3, h4, h5, h6, h7, h8⟩ := pop_some hr c d rest hg rfl
  unfold NextPost at hp
  rw [h1] at hp
  obtain ⟨k1, k2, k3, k4⟩ := hp
  rw [heads_len, ← h2] at k3
  exact ⟨k3, k1, k2, h6, l :: r, by rw [h3] at k4; exact k4, h4, by simpa using h5, h7, h8⟩

theorem next_end {base K ND n : Nat} {kids : Nat → List Nat} {next : Nat → Option Nat} {sk : Nat → Bool} {L : List (List Nat)} {last : Option Nat} {w : World} (h : St w base K ND n kids next sk L last [])
    (hb : base ≤ w.heap.size) (hL : Links w ND n (fun v => (kids v).head?) next) (hND : ND < base) (hNK : ND ≠ K) (hn : n ≤ 1500) (hk : ∀ v c, c ∈ kids v → v < c ∧ c ≤ n) (hsib : ∀ v, Sib next (kids v)) :
    Calls Yba.prog 5 #[.pointer (some ⟨K, 0, none⟩)] w fun e w' => e = .returned (.tuple #[.pointer none, .int .i64 0]) ∧ KF base K w w' ∧ base ≤ w'.heap.size ∧ St w' base K ND n kids next sk [] none [] := by
  obtain ⟨E, hr, hg, hc⟩ := next_go h hb hL hND hNK hn hk hsib
  refine hc.mono ?_
  intro e w' hp
  unfold NextPost at hp
  rw [pop_nil hr rfl] at hp
  obtain ⟨k1, k2, k3, k4⟩ := hp
  exact ⟨k3, k1, k2, ⟨k4, trivial, by simp, fun u hu => (by cases hu), fun _ => .nil, fun u hu => (by cases hu)⟩⟩

end Go.Proofs.Ybulkagui
