/-
  THE PLAIN LAW: trees by parents; what a walk meets; siblings.
-/
import Derived.Test.YbulkaguiNext3
namespace Go.Proofs.Ybulkagui

/-- What a walk over the siblings l at depth d meets. -/
inductive Seq (kids : Nat → List Nat) (sk : Nat → Bool) : List Nat → Nat → List (Nat × Nat) → Prop
  | nil (d : Nat) : Seq kids sk [] d []
  | skip {c : Nat} {r : List Nat} {d : Nat} {b : List (Nat × Nat)} : sk c = true → Seq kids sk r d b → Seq kids sk (c :: r) d ((c, d) :: b)
  | into {c : Nat} {r : List Nat} {d : Nat} {a b : List (Nat × Nat)} : sk c = false → Seq kids sk (kids c) (d + 1) a → Seq kids sk r d b → Seq kids sk (c :: r) d ((c, d) :: (a ++ b))

theorem seq_ex {kids : Nat → List Nat} {n : Nat} (sk : Nat → Bool) (hk : ∀ v c, c ∈ kids v → v < c ∧ c ≤ n) :
    ∀ N l d, (∀ c ∈ l, c ≤ n ∧ n < c + N) → ∃ out, Seq kids sk l d out := by
  intro N
  induction N with
  | zero =>
    intro l d h
    cases l with
    | nil => exact ⟨[], .nil d⟩
    | cons c r => have := h c (by simp); omega
  | succ N ih =>
    intro l
    induction l with
    | nil => intro d _; exact ⟨[], .nil d⟩
    | cons c r ihl =>
      intro d h
      obtain ⟨b, hb⟩ := ihl d (fun x hx => h x (List.mem_cons_of_mem _ hx))
      cases hs : sk c with
      | true => exact ⟨_, .skip hs hb⟩
      | false =>
        have hc := h c (by simp)
        obtain ⟨a, ha⟩ := ih (kids c) (d + 1) (fun x hx => by have := hk c x hx; omega)
        exact ⟨_, .into hs ha hb⟩

/-- x lies in the subtree of c. -/
def Up (par : Nat → Nat) (c x : Nat) : Prop := ∃ k, Nat.repeat par k x = c

theorem repeat_le {par : Nat → Nat} (hp : ∀ x, par x ≤ x) : ∀ k x, Nat.repeat par k x ≤ x := by
  intro k
  induction k with
  | zero => intro x; exact Nat.le_refl _
  | succ k ih => intro x; exact Nat.le_trans (hp _) (ih x)

theorem repeat_add (par : Nat → Nat) (j : Nat) : ∀ k x, Nat.repeat par (k + j) x = Nat.repeat par k (Nat.repeat par j x) := by
  intro k
  induction k with
  | zero => intro x; simp [Nat.repeat]
  | succ k ih => intro x; rw [Nat.succ_add]; simp only [Nat.repeat]; rw [ih]

theorem up_le {par : Nat → Nat} (hp : ∀ x, par x ≤ x) {c x : Nat} (h : Up par c x) : c ≤ x := by
  obtain ⟨k, rfl⟩ := h
  exact repeat_le hp k x

theorem up_par {par : Nat → Nat} {c x : Nat} (h : Up par c x) : Up par (par c) x := by
  obtain ⟨k, rfl⟩ := h
  exact ⟨k + 1, rfl⟩

theorem up_lt {par : Nat → Nat} (hp : ∀ x, par x ≤ x) {c1 c2 v k1 k2 x : Nat} (h1 : par c1 = v) (l2 : v < c2) (e1 : Nat.repeat par k1 x = c1) (e2 : Nat.repeat par k2 x = c2) (h : k1 < k2) : False := by
  obtain ⟨j, rfl⟩ : ∃ j, k2 = (j + 1) + k1 := ⟨k2 - k1 - 1, by omega⟩
  rw [repeat_add, e1, repeat_add par 1 j c1] at e2
  have : Nat.repeat par 1 c1 = v := h1
  rw [this] at e2
  have := repeat_le hp j v
  omega

theorem up_apart {par : Nat → Nat} (hp : ∀ x, par x ≤ x) {c1 c2 v x : Nat} (h1 : par c1 = v) (h2 : par c2 = v) (l1 : v < c1) (l2 : v < c2) (hne : c1 ≠ c2) (u1 : Up par c1 x) (u2 : Up par c2 x) : False := by
  obtain ⟨k1, e1⟩ := u1
  obtain ⟨k2, e2⟩ := u2
  rcases Nat.lt_trichotomy k1 k2 with h | h | h
  · exact up_lt hp h1 l2 e1 e2 h
  · subst h
    exact hne (e1.symm.trans e2)
  · exact up_lt hp h2 l1 e2 e1 h

theorem seq_up {kids : Nat → List Nat} {sk : Nat → Bool} {par : Nat → Nat} (hk : ∀ v c, c ∈ kids v → par c = v) {l : List Nat} {d : Nat} {out : List (Nat × Nat)} (h : Seq kids sk l d out) : ∀ x ∈ out.map Prod.fst, ∃ c ∈ l, Up par c x := by
  induction h with
  | nil d => intro x hx; simp at hx
  | skip hs hb ih =>
    intro x hx
    rw [List.map_cons, List.mem_cons] at hx
    rcases hx with rfl | hx
    · exact ⟨_, List.mem_cons_self, 0, rfl⟩
    · obtain ⟨c, hc, hu⟩ := ih x hx
      exact ⟨c, List.mem_cons_of_mem _ hc, hu⟩
  | into hs ha hb iha ihb =>
    intro x hx
    rw [List.map_cons, List.map_append, List.mem_cons, List.mem_append] at hx
    rcases hx with rfl | hx | hx
    · exact ⟨_, List.mem_cons_self, 0, rfl⟩
    · obtain ⟨c', hc, hu⟩ := iha x hx
      have := up_par hu
      rw [hk _ _ hc] at this
      exact ⟨_, by simp, this⟩
    · obtain ⟨c, hc, hu⟩ := ihb x hx
      exact ⟨c, List.mem_cons_of_mem _ hc, hu⟩

theorem seq_nodup {kids : Nat → List Nat} {sk : Nat → Bool} {par : Nat → Nat} (hp : ∀ x, par x ≤ x) (hk : ∀ v c, c ∈ kids v → par c = v) (hlt : ∀ v c, c ∈ kids v → v < c) (hnd : ∀ v, (kids v).Nodup) {l : List Nat} {d : Nat} {out : List (Nat × Nat)} (h : Seq kids sk l d out) :
    ∀ v, l.Nodup → (∀ c ∈ l, par c = v ∧ v < c) → (out.map Prod.fst).Nodup := by
  induction h with
  | nil d => intro v _ _; simp
  | @skip c r d b hs hb ih =>
    intro v hn hc
    rw [List.nodup_cons] at hn
    rw [List.map_cons, List.nodup_cons]
    refine ⟨fun hm => ?_, ih v hn.2 (fun x hx => hc x (List.mem_cons_of_mem _ hx))⟩
    obtain ⟨c2, h2, u2⟩ := seq_up hk hb c hm
    have a := hc c (by simp)
    have b := hc c2 (List.mem_cons_of_mem _ h2)
    exact up_apart hp a.1 b.1 a.2 b.2 (fun e => hn.1 (e ▸ h2)) ⟨0, rfl⟩ u2
  | @into c r d a b hs ha hb iha ihb =>
    intro v hn hc
    rw [List.nodup_cons] at hn
    have ac := hc c (by simp)
    have na := iha c (hnd c) (fun x hx => ⟨hk _ _ hx, hlt _ _ hx⟩)
    have nb := ihb v hn.2 (fun x hx => hc x (List.mem_cons_of_mem _ hx))
    have inA : ∀ x ∈ a.map Prod.fst, Up par c x := fun x hx => by
      obtain ⟨c', hc', hu⟩ := seq_up hk ha x hx
      have := up_par hu
      rwa [hk _ _ hc'] at this
    have offB : ∀ x ∈ b.map Prod.fst, ¬ Up par c x := fun x hx u1 => by
      obtain ⟨c2, h2, u2⟩ := seq_up hk hb x hx
      have b := hc c2 (List.mem_cons_of_mem _ h2)
      exact up_apart hp ac.1 b.1 ac.2 b.2 (fun e => hn.1 (e ▸ h2)) u1 u2
    rw [List.map_cons, List.map_append, List.nodup_cons, List.nodup_append]
    refine ⟨fun hm => ?_, na, nb, fun x hx y hy e => offB y hy (e ▸ inA x hx)⟩
    rw [List.mem_append] at hm
    rcases hm with hm | hm
    · obtain ⟨c', hc', hu⟩ := seq_up hk ha c hm
      have := up_le hp hu
      have := hlt _ _ hc'
      omega
    · exact offB c hm ⟨0, rfl⟩

theorem nodup_le : ∀ (n : Nat) (l : List Nat), l.Nodup → (∀ x ∈ l, x < n) → l.length ≤ n := by
  intro n
  induction n with
  | zero =>
    intro l _ h
    cases l with
    | nil => simp
    | cons x r => have := h x (by simp); omega
  | succ n ih =>
    intro l hn h
    have := ih (l.erase n) (hn.erase n) (fun x hx => by
      have h1 := (List.Nodup.mem_erase_iff hn).1 hx
      have := h x h1.2
      have := h1.1
      omega)
    rw [List.length_erase] at this
    split at this <;> omega

theorem seq_mem {kids : Nat → List Nat} {sk : Nat → Bool} (q : Nat → Prop) (hk : ∀ v c, c ∈ kids v → q c) {l : List Nat} {d : Nat} {out : List (Nat × Nat)} (h : Seq kids sk l d out) : (∀ c ∈ l, q c) → ∀ x ∈ out.map Prod.fst, q x := by
  induction h with
  | nil d => intro _ x hx; simp at hx
  | skip hs hb ih =>
    intro hc x hx
    rw [List.map_cons, List.mem_cons] at hx
    rcases hx with rfl | hx
    · exact hc _ (by simp)
    · exact ih (fun x hx => hc x (List.mem_cons_of_mem _ hx)) x hx
  | into hs ha hb iha ihb =>
    intro hc x hx
    rw [List.map_cons, List.map_append, List.mem_cons, List.mem_append] at hx
    rcases hx with rfl | hx | hx
    · exact hc _ (by simp)
    · exact iha (fun x hx => hk _ x hx) x hx
    · exact ihb (fun x hx => hc x (List.mem_cons_of_mem _ hx)) x hx

/-! ### The building -/
/-- The children of v once nodes 1 .. m are laid. -/
def kidsAt (par : Nat → Nat) : Nat → Nat → List Nat
  | 0, _ => []
  | m + 1, v => if par (m + 1) = v then kidsAt par m v ++ [m + 1] else kidsAt par m v

/-- The next sibling of j once nodes 1 .. m are laid. -/
def nextAt (par : Nat → Nat) : Nat → Nat → Option Nat
  | 0, _ => none
  | m + 1, j => if (kidsAt par m (par (m + 1))).getLast? = some j then some (m + 1) else nextAt par m j

theorem mem_kids {par : Nat → Nat} : ∀ {m v c : Nat}, c ∈ kidsAt par m v → 1 ≤ c ∧ c ≤ m ∧ par c = v := by
  intro m
  induction m with
  | zero => intro v c h; simp [kidsAt] at h
  | succ m ih =>
    intro v c h
    unfold kidsAt at h
    split at h
    · rename_i hp
      rw [List.mem_append, List.mem_singleton] at h
      rcases h with h | h
      · have := ih h; omega
      · subst h; exact ⟨by omega, Nat.le_refl _, hp⟩
    · have := ih h; omega

theorem kids_nodup {par : Nat → Nat} : ∀ m v, (kidsAt par m v).Nodup := by
  intro m
  induction m with
  | zero => intro v; simp [kidsAt]
  | succ m ih =>
    intro v
    unfold kidsAt
    split
    · rw [List.nodup_append]
      refine ⟨ih v, by simp, fun x hx y hy e => ?_⟩
      have := (mem_kids hx).2.1
      simp at hy
      omega
    · exact ih v

theorem kids_len {par : Nat → Nat} : ∀ m v, (kidsAt par m v).length ≤ m := by
  intro m
  induction m with
  | zero => intro v; simp [kidsAt]
  | succ m ih =>
    intro v
    have := ih v
    unfold kidsAt
    split
    · simp; exact this
    · omega

theorem next_far {par : Nat → Nat} : ∀ m j, m < j → nextAt par m j = none := by
  intro m
  induction m with
  | zero => intro j _; rfl
  | succ m ih =>
    intro j h
    unfold nextAt
    rw [if_neg, ih j (by omega)]
    intro e
    have := (mem_kids (List.mem_of_getLast? e)).2.1
    omega

/-- The list l of siblings is what next runs through. -/
def Sib (next : Nat → Option Nat) : List Nat → Prop
  | [] => True
  | x :: r => next x = r.head? ∧ Sib next r

theorem sib_congr {nx nx' : Nat → Option Nat} : ∀ {l : List Nat}, Sib nx l → (∀ x ∈ l, nx' x = nx x) → Sib nx' l := by
  intro l
  induction l with
  | nil => intro _ _; trivial
  | cons x r ih =>
    intro h e
    exact ⟨(e x (by simp)).trans h.1, ih h.2 (fun y hy => e y (List.mem_cons_of_mem _ hy))⟩

theorem sib_append {nx nx' : Nat → Option Nat} {y : Nat} (hy : nx' y = none) : ∀ {l : List Nat}, Sib nx l → l.Nodup → (∀ x ∈ l, nx' x = if l.getLast? = some x then some y else nx x) → Sib nx' (l ++ [y]) := by
  intro l
  induction l with
  | nil => intro _ _ _; exact ⟨hy, trivial⟩
  | cons x r ih =>
    intro h hn e
    rw [List.nodup_cons] at hn
    cases r with
    | nil =>
      have := e x (by simp)
      simp at this
      exact ⟨this, hy, trivial⟩
    | cons z r' =>
      refine ⟨?_, ih h.2 hn.2 (fun q hq => ?_)⟩
      · rw [e x (by simp), if_neg, h.1]
        · rfl
        · intro k
          rw [List.getLast?_cons_cons] at k
          exact hn.1 (List.mem_of_getLast? k)
      · rw [e q (List.mem_cons_of_mem _ hq), List.getLast?_cons_cons]

theorem sib_at {par : Nat → Nat} : ∀ m v, Sib (nextAt par m) (kidsAt par m v) := by
  intro m
  induction m with
  | zero => intro v; trivial
  | succ m ih =>
    intro v
    by_cases hp : par (m + 1) = v
    · have e : kidsAt par (m + 1) v = kidsAt par m v ++ [m + 1] := by rw [kidsAt, if_pos hp]
      rw [e]
      refine sib_append ?_ (ih v) (kids_nodup m v) (fun x _ => ?_)
      · exact next_far' m
      · rw [nextAt, hp]
    · have e : kidsAt par (m + 1) v = kidsAt par m v := by rw [kidsAt, if_neg hp]
      rw [e]
      refine sib_congr (ih v) (fun x hx => ?_)
      rw [nextAt, if_neg]
      intro k
      have a := (mem_kids (List.mem_of_getLast? k)).2.2
      have b := (mem_kids hx).2.2
      exact hp (a.symm.trans b)
where
  next_far' (m : Nat) : nextAt par (m + 1) (m + 1) = none := by
    rw [nextAt, if_neg, next_far m _ (by omega)]
    intro k
    have := (mem_kids (List.mem_of_getLast? k)).2.1
    omega

/-! ### The walker's stack: of each level the siblings that are still to come, the innermost first -/
/-- What is still to come. -/
inductive Rem (kids : Nat → List Nat) (sk : Nat → Bool) : List (List Nat) → List (Nat × Nat) → Prop
  | nil : Rem kids sk [] []
  | cons {l : List Nat} {r : List (List Nat)} {a b : List (Nat × Nat)} : Seq kids sk l (r.length + 1) a → Rem kids sk r b → Rem kids sk (l :: r) (a ++ b)

/-- A stack that is in order. -/
def Good (n : Nat) (next : Nat → Option Nat) : List (List Nat) → Prop
  | [] => True
  | l :: r => (∀ c ∈ l, r.length + 1 ≤ c ∧ c ≤ n) ∧ Sib next l ∧ Good n next r

/-- The stack in memory. -/
def heads (L : List (List Nat)) : List (Option Nat) := L.map List.head?

theorem heads_len (L : List (List Nat)) : (heads L).length = L.length := by simp [heads]

theorem heads_le {n : Nat} {next : Nat → Option Nat} : ∀ {L : List (List Nat)}, Good n next L → ∀ c, some c ∈ heads L → c ≤ n := by
  intro L
  induction L with
  | nil => intro _ c h; simp [heads] at h
  | cons l r ih =>
    intro hg c h
    simp only [heads, List.map_cons, List.mem_cons] at h
    rcases h with h | h
    · exact (hg.1 c (List.mem_of_head? h.symm)).2
    · exact ih hg.2.2 c h

/-- Nothing is to come: every list is empty. -/
theorem pop_nil {kids : Nat → List Nat} {sk : Nat → Bool} {L : List (List Nat)} {out : List (Nat × Nat)} (h : Rem kids sk L out) : out = [] → pop (heads L) = none := by
  induction h with
  | nil => intro _; rfl
  | @cons l r a b ha hb ih =>
    intro e
    have ea : a = [] := (List.append_eq_nil_iff.1 e).1
    have eb : b = [] := (List.append_eq_nil_iff.1 e).2
    subst ea
    cases ha with
    | nil d => exact ih eb

/-- Something is to come: what Next finds. -/
theorem pop_some {kids : Nat → List Nat} {sk : Nat → Bool} {n : Nat} {next : Nat → Option Nat} {L : List (List Nat)} {out : List (Nat × Nat)} (h : Rem kids sk L out) :
    ∀ c d rest, Good n next L → out = (c, d) :: rest → ∃ l r, pop (heads L) = some (c, heads r) ∧ d = r.length + 1 ∧ next c = l.head? ∧ Good n next (l :: r) ∧ r.length + 1 ≤ c ∧ c ≤ n ∧
      (sk c = true → Rem kids sk (l :: r) rest) ∧ (sk c = false → Rem kids sk (kids c :: l :: r) rest) := by
  induction h with
  | nil => intro c d rest _ e; simp at e
  | @cons l r a b ha hb ih =>
    intro c d rest hg e
    cases ha with
    | nil d' =>
      obtain ⟨l', r', h⟩ := ih c d rest hg.2.2 e
      exact ⟨l', r', h⟩
    | @skip c' r' _ b' hs hb' =>
      simp only [List.cons_append, List.cons.injEq, Prod.mk.injEq] at e
      obtain ⟨⟨rfl, rfl⟩, rfl⟩ := e
      have hc := hg.1 c' (by simp)
      refine ⟨r', r, rfl, rfl, hg.2.1.1, ⟨fun x hx => hg.1 x (List.mem_cons_of_mem _ hx), hg.2.1.2, hg.2.2⟩, hc.1, hc.2, fun _ => .cons hb' hb, fun h => by rw [hs] at h; cases h⟩
    | @into c' r' _ a' b' hs ha' hb' =>
      simp only [List.cons_append, List.cons.injEq, Prod.mk.injEq] at e
      obtain ⟨⟨rfl, rfl⟩, rfl⟩ := e
      have hc := hg.1 c' (by simp)
      refine ⟨r', r, rfl, rfl, hg.2.1.1, ⟨fun x hx => hg.1 x (List.mem_cons_of_mem _ hx), hg.2.1.2, hg.2.2⟩, hc.1, hc.2, fun h => (by rw [hs] at h; cases h), fun _ => ?_⟩
      rw [List.append_assoc]
      exact .cons ha' (.cons hb' hb)

end Go.Proofs.Ybulkagui
