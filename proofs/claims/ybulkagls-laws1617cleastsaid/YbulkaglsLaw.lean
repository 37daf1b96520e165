/-
  THE WALK of LawS1617CLeast.
-/
import Derived.Test.YbulkaglsLeast
import Derived.Deep.CutRange
namespace Go.Proofs.Ybulkagls
open Go.RowKit

/-- The zero entry. -/
def zEnt : Value := .agg #[.int .u8 0, .int .u8 0, .int .u8 0, .int .u8 0, .int .u8 0, .int .u8 0, .int .u8 0, .int .u8 0, .int .u8 0, .int .u8 0, .int .u8 0, .int .u8 0, .int .u8 0, .int .u8 0, .int .u8 0, .int .u8 0, .int .u8 0, .int .u8 0, .int .u8 0, .int .u8 0,
   .int .u64 0, .int .u64 0, .pointer none, .int .u16 0, .int .u64 0, .int .i64 0, .pointer none, .int .u64 0, .int .i64 0, .pointer none, .int .i64 0, .bool false]

theorem info51z : (Yba.prog.info? 51).map (fun i => (i.zero, i.size, i.bytes)) = some (some zEnt, 32, 120) := by kernel_rfl

/-- The cells of the argument: element j at block b, offset off + 4 j. -/
structure ArgAt (w : World) (b off : Nat) (x : Ents) (j : Nat) : Prop where
  c0 : w.cell? ⟨b, off + j * 4, none⟩ = some (.int .i16 (x.a j))
  c1 : w.cell? ⟨b, off + j * 4 + 1, none⟩ = some (.int .i16 (x.q j))
  c2 : w.cell? ⟨b, off + j * 4 + 2, none⟩ = some (.int .i64 (x.f j))
  c3 : w.cell? ⟨b, off + j * 4 + 3, none⟩ = some (.bool (x.v j))

theorem there_of_owns {w : World} {base n cap g : Nat} {xs : List Value} (h : w.ownsRow base 51 32 (.slice (some ⟨g, 0, none⟩) n cap) n xs) (hx : xs.length = n * 32) (j : Nat) (hj : j < n) : w.there g (j * 32) 32 := by
  intro i hi
  have hl : j * 32 + i < n * 32 := by omega
  refine ⟨?_, h.frozenAt _⟩
  rw [h.cellAt _ hl, List.getElem?_eq_getElem (by omega)]
  rfl

/-- What the fill loop's world bears. -/
structure Pre (w wr : World) (Bk len : Nat) (n : Int) (sv : Bool) : Prop where
  bel : Below w.heap.size w wr
  sz : Bk < wr.heap.size
  lo : w.heap.size + 5 < Bk
  cD : wr.cell? ⟨w.heap.size, 0, none⟩ = some (.bool sv)
  n0 : wr.cell? ⟨w.heap.size + 4, 0, none⟩ = some (.int .u64 0)
  n1 : wr.cell? ⟨w.heap.size + 4, 1, none⟩ = some (.int .i64 (n * 60))
  n2 : wr.cell? ⟨w.heap.size + 4, 2, none⟩ = some (.pointer none)
  cB : wr.cell? ⟨Bk, 0, none⟩ = some (.slice (some ⟨w.heap.size + 5, 0, none⟩) len len)
  th : ∀ j, j < len → wr.there (w.heap.size + 5) (j * 32) 32

theorem there_grown {w w' : World} {row : Option Nat} (hg : w.grownBy w' row) {b o k : Nat} (h : w.there b o k) (hb : b < w.heap.size) (hr : some b ≠ row) : w'.there b o k := fun j hj => by
  rw [hg.cell_far ⟨b, o + j, none⟩ hb hr, hg.frozen_far ⟨b, o + j, none⟩ hb hr]; exact h j hj

/-- Writes into the entries' block alone, and new blocks, keep it (that the entries may be written is told apart). -/
theorem Pre.step {w wr wr' : World} {Bk len : Nat} {n : Int} {sv : Bool} (h : Pre w wr Bk len n sv) (hg : wr.grownBy wr' (some (w.heap.size + 5))) (ht : ∀ j, j < len → wr'.there (w.heap.size + 5) (j * 32) 32) : Pre w wr' Bk len n sv := by
  have hs := h.sz
  have hl := h.lo
  refine ⟨h.bel.trans ⟨hg.os, hg.tape, hg.output, hg.size, fun i hi => hg.block i (by omega) (by simp; omega)⟩, Nat.lt_of_lt_of_le h.sz hg.size, hl, ?_, ?_, ?_, ?_, ?_, ht⟩
  · rw [hg.cell_far _ (by simp; omega) (by simp)]; exact h.cD
  · rw [hg.cell_far _ (by simp; omega) (by simp)]; exact h.n0
  · rw [hg.cell_far _ (by simp; omega) (by simp)]; exact h.n1
  · rw [hg.cell_far _ (by simp; omega) (by simp)]; exact h.n2
  · rw [hg.cell_far _ (by simp; omega) (by simp; omega)]; exact h.cB

theorem grown_setCells (w : World) (b o : Nat) (cs : List Value) : w.grownBy (w.setCells b o cs) (some b) := by
  induction cs generalizing w o with
  | nil => exact World.grownBy.refl _ _
  | cons c cs ih => exact grown_trans (grown_setCell w b o c) (ih _ _)

/-- What the statement of the fill loop reads. -/
abbrev S9 (E Bk b o len : Nat) (a q f : Int) (v : Bool) (k : Nat) (w' : World) : Prop :=
  w'.cell? ⟨Bk, 0, none⟩ = some (.slice (some ⟨E, 0, none⟩) len len) ∧ w'.cell? ⟨b, o, none⟩ = some (.int .i16 a) ∧ w'.cell? ⟨b, o + 1, none⟩ = some (.int .i16 q) ∧ w'.cell? ⟨b, o + 2, none⟩ = some (.int .i64 f) ∧ w'.cell? ⟨b, o + 3, none⟩ = some (.bool v) ∧ w'.there E (k * 32) 32

theorem s9_drew {E Bk b o len : Nat} {a q f : Int} {v : Bool} {k : Nat} {w' : World} (h : S9 E Bk b o len a q f v k w') : S9 E Bk b o len a q f v k w'.drew := h
theorem s9_alloc {E Bk b o len : Nat} {a q f : Int} {v : Bool} {k : Nat} {w' : World} (ob : Obj) (h : S9 E Bk b o len a q f v k w') : S9 E Bk b o len a q f v k (w'.alloc ob) := by
  obtain ⟨h1, h2, h3, h4, h5, h6⟩ := h
  have hB := World.block_lt_of_cell? w' _ h1
  have hb := World.block_lt_of_cell? w' _ h2
  refine ⟨?_, ?_, ?_, ?_, ?_, World.there_alloc h6 ob⟩
  · rw [World.cell?_alloc_lt _ _ _ hB]; exact h1
  · exact (World.cell?_alloc_lt w' ob ⟨b, o, none⟩ hb).trans h2
  · exact (World.cell?_alloc_lt w' ob ⟨b, o + 1, none⟩ hb).trans h3
  · exact (World.cell?_alloc_lt w' ob ⟨b, o + 2, none⟩ hb).trans h4
  · exact (World.cell?_alloc_lt w' ob ⟨b, o + 3, none⟩ hb).trans h5
theorem s9_store {E Bk b o len : Nat} {a q f : Int} {v : Bool} {k : Nat} {w' : World} (cs : List Value) (hB : Bk ≠ E) (hb : b ≠ E) (h : S9 E Bk b o len a q f v k w') : S9 E Bk b o len a q f v k (w'.setCells E (k * 32) cs) := by
  obtain ⟨h1, h2, h3, h4, h5, h6⟩ := h
  have hB' := World.block_lt_of_cell? w' _ h1
  have hb' := World.block_lt_of_cell? w' _ h2
  have hg := grown_setCells w' E (k * 32) cs
  refine ⟨?_, ?_, ?_, ?_, ?_, World.there_setCells h6 _ _ _⟩
  · rw [hg.cell_far _ hB' (by simpa using hB)]; exact h1
  · exact (hg.cell_far ⟨b, o, none⟩ hb' (by simpa using hb)).trans h2
  · exact (hg.cell_far ⟨b, o + 1, none⟩ hb' (by simpa using hb)).trans h3
  · exact (hg.cell_far ⟨b, o + 2, none⟩ hb' (by simpa using hb)).trans h4
  · exact (hg.cell_far ⟨b, o + 3, none⟩ hb' (by simpa using hb)).trans h5

theorem pre_start {w w2 : World} {sv : Bool} {n : Int} {len : Nat} {c1 c2 c3 : Array Value} {xs : List Value} (ob : Obj)
    (hown : w2.ownsRow (w.heap.size + 5) 51 32 (.slice (some ⟨(((((w.alloc (.cells #[.bool sv] 4)).alloc (.cells c1 28)).alloc (.cells c2 28)).alloc (.cells c3 28)).alloc (box n)).heap.size, 0, none⟩) len len) len xs) (hx : xs.length = len * 32)
    (hgr : (((((w.alloc (.cells #[.bool sv] 4)).alloc (.cells c1 28)).alloc (.cells c2 28)).alloc (.cells c3 28)).alloc (box n)).grownBy w2 none) (hob : ob = .cells #[.slice (some ⟨w.heap.size + 5, 0, none⟩) len len, .int .u64 0, .int .i64 0, .pointer none, .bool false] 33) :
    Pre w (w2.alloc ob) w2.heap.size len n sv := by
  have hz : (((((w.alloc (.cells #[.bool sv] 4)).alloc (.cells c1 28)).alloc (.cells c2 28)).alloc (.cells c3 28)).alloc (box n)).heap.size = w.heap.size + 5 := by simp
  rw [hz] at hown
  have hE : w.heap.size + 5 < w2.heap.size := (hown.lt (w.heap.size + 5) rfl).2
  have hb1 : Below w.heap.size w (((((w.alloc (.cells #[.bool sv] 4)).alloc (.cells c1 28)).alloc (.cells c2 28)).alloc (.cells c3 28)).alloc (box n)) :=
    (((((Below.refl _ _).alloc (Nat.le_refl _) _).alloc (by simp) _).alloc (by simp; omega) _).alloc (by simp; omega) _).alloc (by simp; omega) _
  have hb2 : Below w.heap.size (((((w.alloc (.cells #[.bool sv] 4)).alloc (.cells c1 28)).alloc (.cells c2 28)).alloc (.cells c3 28)).alloc (box n)) w2 :=
    ⟨hgr.os, hgr.tape, hgr.output, hgr.size, fun i hi => hgr.block i (by rw [hz]; omega) (by simp)⟩
  have kc : ∀ b o v, b < w.heap.size + 5 → (((((w.alloc (.cells #[.bool sv] 4)).alloc (.cells c1 28)).alloc (.cells c2 28)).alloc (.cells c3 28)).alloc (box n)).cell? ⟨b, o, none⟩ = some v → (w2.alloc ob).cell? ⟨b, o, none⟩ = some v := fun b o v hb h => by
    rw [World.cell?_alloc_lt _ _ ⟨b, o, none⟩ (by simp; omega), hgr.cell_far ⟨b, o, none⟩ (by rw [hz]; exact hb) (by simp)]; exact h
  refine ⟨(hb1.trans hb2).alloc (by omega) _, by simp, hE, kc _ _ _ (by omega) ?_, kc _ _ _ (by omega) ?_, kc _ _ _ (by omega) ?_, kc _ _ _ (by omega) ?_, ?_, fun j hj => World.there_alloc (there_of_owns hown hx j hj) _⟩
  · simp [go_sem]
  · simp [go_sem]
  · simp [go_sem]
  · simp [go_sem]
  · rw [hob]; simp [go_sem]

theorem cell_kept {w5 wl : World} {C : Nat} {v : Value} (hg : w5.grownBy wl none) (hs : C < w5.heap.size) (hc : w5.cell? ⟨C, 0, none⟩ = some v) : wl.cell? ⟨C, 0, none⟩ = some v :=
  (hg.cell_far ⟨C, 0, none⟩ hs (by simp)).trans hc

theorem scan_false (x : Ents) (s n : Int) (sv : Bool) (k : Nat) : (scan x s n false sv k).2 = 0 := by
  induction k with
  | zero => rfl
  | succ k ih =>
    simp only [scan]
    split
    · exact ih
    · simp [ih]

theorem pre_round {w wr : World} {Bk len : Nat} {n : Int} {sv : Bool} {x : Ents} {k : Nat} (hp : Pre w wr Bk len n sv) (hk : k < len) (hr : ∀ j, j < k → wr.rangeAt (w.heap.size + 5) (j * 32) (eCells x j)) (o1 o2 o3 o4 o5 o6 : Obj) :
    Pre w (((((((wr.alloc o1).alloc o2).alloc o3).alloc o4).alloc o5).alloc o6).drew.setCells (w.heap.size + 5) (k * 32) (eCells x k)) Bk len n sv ∧
      ∀ j, j < k + 1 → (((((((wr.alloc o1).alloc o2).alloc o3).alloc o4).alloc o5).alloc o6).drew.setCells (w.heap.size + 5) (k * 32) (eCells x k)).rangeAt (w.heap.size + 5) (j * 32) (eCells x j) := by
  have hg : wr.grownBy ((((((wr.alloc o1).alloc o2).alloc o3).alloc o4).alloc o5).alloc o6).drew (some (w.heap.size + 5)) := by
    refine grown_of_below _ (Below.drew ?_)
    exact ((((((Below.refl _ _).alloc (Nat.le_refl _) _).alloc (by simp) _).alloc (by simp; omega) _).alloc (by simp; omega) _).alloc (by simp; omega) _).alloc (by simp; omega) _
  have hE : w.heap.size + 5 < wr.heap.size := by have := hp.lo; have := hp.sz; omega
  have ha : ∀ o c, wr.rangeAt (w.heap.size + 5) o c → ((((((wr.alloc o1).alloc o2).alloc o3).alloc o4).alloc o5).alloc o6).drew.rangeAt (w.heap.size + 5) o c := fun o c h => by
    rw [World.rangeAt_drew]
    exact World.rangeAt_alloc (World.rangeAt_alloc (World.rangeAt_alloc (World.rangeAt_alloc (World.rangeAt_alloc (World.rangeAt_alloc h _) _) _) _) _) _
  have ht : ∀ o c, wr.there (w.heap.size + 5) o c → ((((((wr.alloc o1).alloc o2).alloc o3).alloc o4).alloc o5).alloc o6).drew.there (w.heap.size + 5) o c := fun o c h => by
    rw [World.there_drew]
    exact World.there_alloc (World.there_alloc (World.there_alloc (World.there_alloc (World.there_alloc (World.there_alloc h _) _) _) _) _) _
  generalize ((((((wr.alloc o1).alloc o2).alloc o3).alloc o4).alloc o5).alloc o6).drew = W at hg ha ht ⊢
  refine ⟨hp.step (grown_trans hg (grown_setCells W _ _ _)) (fun j hj => World.there_setCells (ht _ _ (hp.th j hj)) _ _ _), fun j hj => ?_⟩
  by_cases hjk : j = k
  · subst hjk
    exact World.rangeAt_setCells_same _ _ _ _ (ht _ _ (hp.th j hk))
  · exact World.rangeAt_setCells_apart (ha _ _ (hr j (by omega))) _ _ _ (Or.inr (Or.inl (by show j * 32 + 32 ≤ k * 32; omega)))

theorem bkt_of_pre {w wr : World} {Bk len : Nat} {n : Int} {sv : Bool} {x : Ents} (hp : Pre w wr Bk len n sv) (hr : ∀ j, j < len → wr.rangeAt (w.heap.size + 5) (j * 32) (eCells x j)) : Bkt wr Bk (w.heap.size + 5) len x :=
  ⟨hp.cB, by have := hp.lo; have := hp.sz; omega, hr⟩

/-- The store of a whole entry, under a name that the walk does not lay open till both operands are read. -/
def wpSt (o : Oper) (p v : Value) (a : Act) (w : World) (K : Act → World → Prop) (Q : Exit → Act → World → Prop) : Prop :=
  o.upon Yba.prog a K Q ((do Instr.storeAt 51 p v; pure Next.skip : Sem Next).run Yba.prog w)
theorem wpSt_eq (d : Option Tmp) (x y : Operand) (t : TypeId) (pos : String) (af : Array Edge) (g : Option (Nat × Bool)) (a : Act) (w : World) (K : Act → World → Prop) (Q : Exit → Act → World → Prop) :
    Oper.wp Yba.prog { dst := d, op := .store 51 x y, type := t, pos := pos, after := af, guard := g } a w K Q = wpSt { dst := d, op := .store 51 x y, type := t, pos := pos, after := af, guard := g } (a.eval x) (a.eval y) a w K Q := rfl
theorem wpSt_run {o : Oper} {a : Act} {w : World} {K : Act → World → Prop} {Q : Exit → Act → World → Prop} {b e : Nat} {x : Ents} {k : Nat} (ht : w.there b e 32) :
    wpSt o (.pointer (some ⟨b, e, none⟩)) (.agg #[.int .u8 0, .int .u8 0, .int .u8 0, .int .u8 0, .int .u8 0, .int .u8 0, .int .u8 0, .int .u8 0, .int .u8 0, .int .u8 0, .int .u8 0, .int .u8 0, .int .u8 0, .int .u8 0, .int .u8 0, .int .u8 0, .int .u8 0, .int .u8 0, .int .u8 0, .int .u8 0, .int .u64 0, .int .u64 0, .pointer none, .int .u16 0, .int .u64 0, .int .i64 (x.a k * 60), .pointer none, .int .u64 0, .int .i64 (x.q k * 60), .pointer none, .int .i64 (x.f k), .bool (x.v k)]) a w K Q = K (a.put o.dst undef) (w.setCells b e (eCells x k)) := by
  have h := run_storeAt_mid (P := Yba.prog) w b e 51 (eCells x k).toArray ht info51 (by simp [eCells, Value.oneCell'])
  have h' : (Instr.storeAt 51 (.pointer (some ⟨b, e, none⟩)) (.agg #[.int .u8 0, .int .u8 0, .int .u8 0, .int .u8 0, .int .u8 0, .int .u8 0, .int .u8 0, .int .u8 0, .int .u8 0, .int .u8 0, .int .u8 0, .int .u8 0, .int .u8 0, .int .u8 0, .int .u8 0, .int .u8 0, .int .u8 0, .int .u8 0, .int .u8 0, .int .u8 0, .int .u64 0, .int .u64 0, .pointer none, .int .u16 0, .int .u64 0, .int .i64 (x.a k * 60), .pointer none, .int .u64 0, .int .i64 (x.q k * 60), .pointer none, .int .i64 (x.f k), .bool (x.v k)])).run Yba.prog w = .ok () (w.setCells b e (eCells x k)) := h
  unfold wpSt
  rw [Sem.run_bind, h']
  rfl
attribute [local go_sem ↓] wpSt_eq
attribute [local go_sem] wpSt_run

theorem law_long (ad : Option Addr) (len cap : Nat) (n sel : Int) (us sv : Bool) (w : World) (hm : len ≤ maxLen) (hlen : ¬ len ≤ 1024) :
    Calls Yba.prog 3 #[.slice ad len cap, .int .i16 n, .int .u8 sel, .bool us, .bool sv] w fun e w' => e = .returned (.bool true) ∧ Below w.heap.size w w' := by
  unfold maxLen at hm
  have h1 : (1024 : Int) < (len : Int) := by omega
  go_enter Yba.func3, Yba.ntmps3
  go_wp2_with fail
  go_ret
  exact ⟨rfl, (Below.refl _ _).alloc (Nat.le_refl _) _⟩

set_option maxRecDepth 100000 in
set_option maxHeartbeats 1600000 in
theorem law_short (ad : Option Addr) (b off len cap : Nat) (x : Ents) (n sel : Int) (us sv : Bool) (w : World) (hlen : len ≤ 1024) (had : len ≠ 0 → ad = some ⟨b, off, none⟩)
    (hx : ∀ j, j < len → ArgAt w b off x j) (hn : Min n) (hm : ∀ j, j < len → Min (x.a j) ∧ Min (x.q j)) (hsel : 0 ≤ sel ∧ sel ≤ 255) :
    Calls Yba.prog 3 #[.slice ad len cap, .int .i16 n, .int .u8 sel, .bool us, .bool sv] w fun e w' => e = .returned (.bool true) ∧ Below w.heap.size w w' := by
  obtain ⟨i0, hi, hz0, hz1, hz2⟩ := info_parts info51z
  obtain ⟨s1, s2⟩ := hsel
  have hl1 : (len : Int) ≤ 1024 := by omega
  have hN := hn
  obtain ⟨n1, n2⟩ := hn
  have HX : Hid (∀ j, j < len → ArgAt w b off x j) := hx
  have HM : Hid (∀ j, j < len → Min (x.a j) ∧ Min (x.q j)) := hm
  have HAD : Hid (len ≠ 0 → ad = some ⟨b, off, none⟩) := had
  clear hx hm had
  go_enter Yba.func3, Yba.ntmps3
  go_wp2_with (first
    | (go_at_call 4; refine (cat_any n _ n1 n2).mono ?_; rintro e w1 ⟨rfl, c1, c2, c3, rfl⟩)
    | (at_make; refine wpList_make_full _ rfl _ _ 31 rfl (w.heap.size + 5) 51 i0 zEnt 32 Yba.underlying31 hi hz0 hz1 .i64 .i64 _ _ len rfl rfl rfl rfl (by rw [hz2]; omega) (by unfold maxLen; omega) (by simp) ?_; intro w2 hown hgr))
  have hpre : Pre w (w2.alloc (.cells #[.slice (some ⟨w.heap.size + 5, 0, none⟩) len len, .int .u64 0, .int .i64 0, .pointer none, .bool false] 33)) w2.heap.size len n sv :=
    pre_start _ hown (by simp [size_madeCells]) hgr rfl
  have HP := hpre
  clear hown hgr hpre
  go_loopg [43] len (fun g i wr => ∃ k : Nat, k + g = len ∧ i = .int .i64 k ∧ Pre w wr w2.heap.size len n sv ∧ ∀ j, j < k → wr.rangeAt (w.heap.size + 5) (j * 32) (eCells x j))
  case atStart => exact ⟨0, by omega, rfl, HP, fun j hj => absurd hj (by omega)⟩
  case round =>
    obtain ⟨k, hk, rfl, hp, hr⟩ := hrel
    have HK : Hid (k + gk = len) := hk
    have HR : Hid (∀ j, j < k → wr.rangeAt (w.heap.size + 5) (j * 32) (eCells x j)) := hr
    clear hk hr HP
    by_cases hlt : k < len
    · have had := HAD.out (by omega)
      subst had
      have hcB := hp.cB
      have hxk := HX.out k hlt
      obtain ⟨ma, mq⟩ := HM.out k hlt
      obtain ⟨a1, a2⟩ := ma
      obtain ⟨q1, q2⟩ := mq
      have hbw : b < w.heap.size := World.block_lt_of_cell? w _ hxk.c0
      have H0 : S9 (w.heap.size + 5) w2.heap.size b (off + k * 4) len (x.a k) (x.q k) (x.f k) (x.v k) k wr :=
        ⟨hp.cB, (hp.bel.cell (p := ⟨b, off + k * 4, none⟩) hbw).trans hxk.c0, (hp.bel.cell (p := ⟨b, off + k * 4 + 1, none⟩) hbw).trans hxk.c1, (hp.bel.cell (p := ⟨b, off + k * 4 + 2, none⟩) hbw).trans hxk.c2, (hp.bel.cell (p := ⟨b, off + k * 4 + 3, none⟩) hbw).trans hxk.c3, hp.th k hlt⟩
      have hne1 : w2.heap.size ≠ w.heap.size + 5 := by have := hp.lo; omega
      have hne2 : b ≠ w.heap.size + 5 := by omega
      have k0 : (0 : Int) ≤ (k : Int) := by omega
      have k1 : (k : Int) < (len : Int) := by omega
      go_wp2_with fail
      go_region_held3 (fun w' => w'.cell? ⟨w2.heap.size, 0, none⟩ = some (.slice (some ⟨w.heap.size + 5, 0, none⟩) len len) ∧ w'.cell? ⟨b, off + k * 4, none⟩ = some (.int .i16 (x.a k)) ∧ w'.cell? ⟨b, off + k * 4 + 1, none⟩ = some (.int .i16 (x.q k)) ∧ w'.cell? ⟨b, off + k * 4 + 2, none⟩ = some (.int .i64 (x.f k)) ∧ w'.cell? ⟨b, off + k * 4 + 3, none⟩ = some (.bool (x.v k)) ∧ w'.there (w.heap.size + 5) (k * 32) 32) (first | (with_reducible exact s9_drew H0) | (with_reducible exact s9_drew (s9_alloc _ (s9_alloc _ (s9_alloc _ H0)))) | (with_reducible exact s9_drew (s9_alloc _ (s9_alloc _ (s9_alloc _ (s9_alloc _ (s9_alloc _ (s9_alloc _ H0))))))) | (with_reducible exact s9_store _ hne1 hne2 (s9_drew (s9_alloc _ (s9_alloc _ (s9_alloc _ (s9_alloc _ (s9_alloc _ (s9_alloc _ H0)))))))) | (with_reducible exact s9_drew (s9_store _ hne1 hne2 (s9_alloc _ (s9_alloc _ (s9_alloc _ (s9_alloc _ (s9_alloc _ (s9_alloc _ H0)))))))))
        (first
          | (go_at_call 4; refine (cat_any _ _ (by omega) (by omega)).mono ?_; rintro e w1 ⟨rfl, c1, c2, c3, rfl⟩))
      go_wp2_with fail
      go_roundg (gk - 1)
      case rel =>
        exact ⟨k + 1, by have := HK.out; omega, by go_num, pre_round hp hlt HR.out _ _ _ _ _ _⟩
      case measure => have := HK.out; omega
    · have hkl : k = len := by have := HK.out; omega
      subst hkl
      have hD := hp.cD
      have hn0 := hp.n0
      have hn1 := hp.n1
      have hn2 := hp.n2
      have hlt2 : w.heap.size < wr.heap.size := by have := hp.lo; have := hp.sz; omega
      have hlt3 : w.heap.size + 4 < wr.heap.size := by have := hp.lo; have := hp.sz; omega
      have hbk := bkt_of_pre hp HR.out
      cases us with
      | false =>
        go_wp2_with fail
        refine (least_nil w2.heap.size (w.heap.size + 5) k x (sel % 3) n sv _ hlen (hbk.grown (World.grownBy_alloc _ _ none) (by simp) (by simp)) hN HM.out).mono ?_
        rintro e w5 ⟨rfl, hg5⟩
        have hC5 : w5.cell? ⟨wr.heap.size, 0, none⟩ = some (.int .i64 (scan x (sel % 3) n false sv k).2) := by
          rw [hg5.cell_far ⟨wr.heap.size, 0, none⟩ (by simp) (by simp), scan_false]; simp
        have hB5 : Below w.heap.size w w5 := hp.bel.trans ⟨hg5.os, hg5.tape, hg5.output, by have := hg5.size; simp at this; omega, fun i hi => by rw [hg5.block i (by simp; omega) (by simp)]; exact Below.heap_alloc _ _ _ (by omega)⟩
        have hD5 : w5.cell? ⟨w.heap.size, 0, none⟩ = some (.bool sv) := by
          rw [hg5.cell_far ⟨w.heap.size, 0, none⟩ (by simp; omega) (by simp), World.cell?_alloc_lt _ _ ⟨w.heap.size, 0, none⟩ hlt2]; exact hD
        have hs5 : wr.heap.size < w5.heap.size := by have := hg5.size; simp at this; omega
        have HC5 : Hid (w5.cell? ⟨wr.heap.size, 0, none⟩ = some (.int .i64 (scan x (sel % 3) n false sv k).2)) := hC5
        have HD5 : Hid (w5.cell? ⟨w.heap.size, 0, none⟩ = some (.bool sv)) := hD5
        clear hC5 hD5 hg5 hp HR hbk hD hn0 hn1 hn2 HK hlt
        go_wp2_with fail
        go_loopg [18, 19, 20, 22] k (fun g wa wc ws i wl => ∃ m : Nat, m + g = k ∧ i = .int .i64 m ∧ wa = .int .i64 (scan x (sel % 3) n false sv m).1 ∧ wc = .int .i64 (scan x (sel % 3) n false sv m).2 ∧ (∃ z : Int, ws = .int .i64 z ∧ (0 ≤ (scan x (sel % 3) n false sv m).1 → z = x.seen (scan x (sel % 3) n false sv m).1.toNat)) ∧ w5.grownBy wl none)
        case atStart => exact ⟨0, by omega, rfl, rfl, rfl, ⟨0, rfl, fun h => absurd h (by simp [scan])⟩, World.grownBy.refl _ _⟩
        case round =>
          obtain ⟨m, hm, rfl, rfl, rfl, ⟨z, rfl, hz⟩, hgl⟩ := hrel
          obtain ⟨bd1, bd2, bd3, bd4⟩ := scan_bd x (sel % 3) n false sv m
          obtain ⟨fd, hfd⟩ : ∃ fd, fd = (scan x (sel % 3) n false sv m).1 := ⟨_, rfl⟩
          rw [← hfd] at bd1 bd2 hz ⊢
          have HF : Hid (fd = (scan x (sel % 3) n false sv m).1) := hfd
          clear hfd
          obtain ⟨c, hcc⟩ : ∃ c, c = (scan x (sel % 3) n false sv m).2 := ⟨_, rfl⟩
          rw [← hcc] at bd3 bd4 ⊢
          have HF2 : Hid (c = (scan x (sel % 3) n false sv m).2) := hcc
          clear hcc
          have HZ : Hid (0 ≤ fd → z = x.seen fd.toNat) := hz
          have HMK : Hid (m + gk = k) := hm
          clear hz hm
          have hs6 := Nat.lt_of_lt_of_le hs5 hgl.size
          by_cases hlt : m < k
          · have had := HAD.out (by omega)
            subst had
            have hxm := HX.out m hlt
            have hbw : b < w.heap.size := World.block_lt_of_cell? w _ hxm.c0
            have hbw5 : b < w5.heap.size := by omega
            have e0 : wr.cell? ⟨b, off + m * 4, none⟩ = some (.int .i16 (x.a m)) := (hgl.cell_far ⟨b, off + m * 4, none⟩ hbw5 (by simp)).trans ((hB5.cell (p := ⟨b, off + m * 4, none⟩) hbw).trans hxm.c0)
            have e1 : wr.cell? ⟨b, off + m * 4 + 1, none⟩ = some (.int .i16 (x.q m)) := (hgl.cell_far ⟨b, off + m * 4 + 1, none⟩ hbw5 (by simp)).trans ((hB5.cell (p := ⟨b, off + m * 4 + 1, none⟩) hbw).trans hxm.c1)
            have e2 : wr.cell? ⟨b, off + m * 4 + 2, none⟩ = some (.int .i64 (x.f m)) := (hgl.cell_far ⟨b, off + m * 4 + 2, none⟩ hbw5 (by simp)).trans ((hB5.cell (p := ⟨b, off + m * 4 + 2, none⟩) hbw).trans hxm.c2)
            have e3 : wr.cell? ⟨b, off + m * 4 + 3, none⟩ = some (.bool (x.v m)) := (hgl.cell_far ⟨b, off + m * 4 + 3, none⟩ hbw5 (by simp)).trans ((hB5.cell (p := ⟨b, off + m * 4 + 3, none⟩) hbw).trans hxm.c3)
            have eD : wr.cell? ⟨w.heap.size, 0, none⟩ = some (.bool sv) := (hgl.cell_far ⟨w.heap.size, 0, none⟩ (by simp; omega) (by simp)).trans HD5.out
            have hDs : w.heap.size < wr.heap.size := by omega
            obtain ⟨ma, mq⟩ := HM.out m hlt
            obtain ⟨a1, a2⟩ := ma
            obtain ⟨q1, q2⟩ := mq
            clear hxm
            go_upto_if 103 with fail
            go_cut [26] from 85 to 137 (fun st wc => st = .int .i64 (x.st n m) ∧ wc = wr.alloc (.cells #[.int .i16 (x.a m), .int .i16 (x.q m), .int .i64 (x.f m), .bool (x.v m)] 35))
            case first =>
              by_cases hf : 2 ≤ x.f m
              · go_wp2_with fail
                go_meet
                exact ⟨vint (by simp [Ents.st, stOf, hf]), rfl⟩
              · by_cases h1 : n - x.a m < 15
                · go_wp2_with fail
                  go_meet
                  exact ⟨vint (by unfold Ents.st stOf; rw [if_neg (by omega), if_pos (by omega)]), rfl⟩
                · by_cases h2 : n - x.q m < 15
                  · go_wp2_with fail
                    go_meet
                    exact ⟨vint (by unfold Ents.st stOf; rw [if_neg (by omega), if_pos (by omega)]), rfl⟩
                  · go_wp2_with fail
                    go_meet
                    exact ⟨vint (by unfold Ents.st stOf; rw [if_neg (by omega), if_neg (by omega)]), rfl⟩
            case rest =>
              obtain ⟨rfl, rfl⟩ := hcut
              obtain ⟨t, ht⟩ : ∃ t, t = x.st n m := ⟨_, rfl⟩
              rw [← ht]
              have HT : Hid (t = x.st n m) := ht
              clear ht
              by_cases hts : t = sel % 3
              case neg =>
                have hts' : (t != sel % 3) = true := by simpa using hts
                have HN : Hid (¬ t = sel % 3) := hts
                clear hts
                go_wp2_with fail
                go_roundg (gk - 1)
                case rel =>
                  have hsc := scan_ne (us := false) (sv := sv) (show x.st n m ≠ sel % 3 by rw [← HT.out]; exact HN.out)
                  exact ⟨m + 1, by have := HMK.out; omega, by go_num, vint (by rw [hsc]; exact HF.out), vint (by rw [hsc]; exact HF2.out), ⟨z, rfl, fun h => by rw [hsc, ← HF.out] at h ⊢; exact HZ.out h⟩, grown_trans hgl (World.grownBy_alloc _ _ _)⟩
                case measure => have := HMK.out; omega
              have hts' : (t != sel % 3) = false := by simpa using hts
              have HT : Hid (sel % 3 = x.st n m) := hts ▸ HT.out
              clear hts
              go_upto_if 127 with fail
              go_cut [27] from 85 to 137 (fun sn wc => sn = .int .i64 (x.seen m) ∧ wc = wr.alloc (.cells #[.int .i16 (x.a m), .int .i16 (x.q m), .int .i64 (x.f m), .bool (x.v m)] 35))
              case first =>
                by_cases hqa : x.a m < x.q m
                · go_wp2_with fail
                  go_meet
                  exact ⟨vint (by simp [Ents.seen, hqa]), rfl⟩
                · have hqa' : x.q m ≤ x.a m := by omega
                  go_wp2_with fail
                  go_meet
                  exact ⟨vint (by simp [Ents.seen]; omega), rfl⟩
              case rest =>
                obtain ⟨rfl, rfl⟩ := hcut
                obtain ⟨sn, hsn⟩ : ∃ sn, sn = x.seen m := ⟨_, rfl⟩
                rw [← hsn]
                have HSN : Hid (sn = x.seen m) := hsn
                clear hsn
                by_cases hneg : fd < 0
                · go_wp2_with fail
                  go_roundg (gk - 1)
                  case rel =>
                    have hsc := scan_take (us := false) (sv := sv) HT.out.symm (by simp) (Or.inl (by rw [← HF.out]; exact hneg))
                    exact ⟨m + 1, by have := HMK.out; omega, by go_num, vint (by rw [hsc]), vint (by rw [hsc]; simp only [Bool.false_eq_true, if_false]; exact HF2.out), ⟨sn, rfl, fun _ => by rw [hsc]; exact HSN.out⟩, grown_trans hgl (World.grownBy_alloc _ _ _)⟩
                  case measure => have := HMK.out; omega
                · have hz' : Hid (z = x.seen fd.toNat) := HZ.out (by omega)
                  by_cases hcmp : sn < z
                  · go_wp2_with fail
                    go_roundg (gk - 1)
                    case rel =>
                      have hsc := scan_take (us := false) (sv := sv) HT.out.symm (by simp) (Or.inr (by rw [← HF.out, ← HSN.out, ← hz'.out]; exact hcmp))
                      exact ⟨m + 1, by have := HMK.out; omega, by go_num, vint (by rw [hsc]), vint (by rw [hsc]; simp only [Bool.false_eq_true, if_false]; exact HF2.out), ⟨sn, rfl, fun _ => by rw [hsc]; exact HSN.out⟩, grown_trans hgl (World.grownBy_alloc _ _ _)⟩
                    case measure => have := HMK.out; omega
                  · go_wp2_with fail
                    go_roundg (gk - 1)
                    case rel =>
                      have hsc := scan_keep (us := false) (sv := sv) HT.out.symm (by simp) (by rw [← HF.out, ← HSN.out, ← hz'.out]; intro h; omega)
                      exact ⟨m + 1, by have := HMK.out; omega, by go_num, vint (by rw [hsc]; exact HF.out), vint (by rw [hsc]; simp only [Bool.false_eq_true, if_false]; exact HF2.out), ⟨z, rfl, fun _ => by rw [hsc, ← HF.out]; exact hz'.out⟩, grown_trans hgl (World.grownBy_alloc _ _ _)⟩
                    case measure => have := HMK.out; omega
          · have hmk : m = k := by have := HMK.out; omega
            subst hmk
            have eC := cell_kept hgl hs5 HC5.out
            rw [← HF2.out] at eC
            rw [← HF.out]
            clear HC5
            go_wp2_with fail
            go_ret
            exact ⟨by simp, hB5.trans ⟨hgl.os, hgl.tape, hgl.output, hgl.size, fun i hi => hgl.block i (by have := hB5.size; omega) (by simp)⟩⟩
      | true =>
        have hne : w2.heap.size ≠ wr.heap.size := by have := hp.sz; omega
        have hne' : w.heap.size + 5 ≠ wr.heap.size := by have := hp.lo; have := hp.sz; omega
        go_wp2_with fail
        refine (least_fn w2.heap.size (w.heap.size + 5) wr.heap.size w.heap.size k x (sel % 3) n sv _ hlen (hbk.grown (World.grownBy_alloc _ _ none) (by simp) (by simp)) hN HM.out hne hne' (by omega) (by simp) (by simp) (by rw [World.cell?_alloc_lt _ _ ⟨w.heap.size, 0, none⟩ hlt2]; exact hD)).mono ?_
        rintro e w5 ⟨rfl, hg5, hC5⟩
        have hB5 : Below w.heap.size w w5 := hp.bel.trans ⟨hg5.os, hg5.tape, hg5.output, by have := hg5.size; simp at this; omega, fun i hi => by rw [hg5.block i (by simp; omega) (by simp; omega)]; exact Below.heap_alloc _ _ _ (by omega)⟩
        have hD5 : w5.cell? ⟨w.heap.size, 0, none⟩ = some (.bool sv) := by
          rw [hg5.cell_far ⟨w.heap.size, 0, none⟩ (by simp; omega) (by simp; omega), World.cell?_alloc_lt _ _ ⟨w.heap.size, 0, none⟩ hlt2]; exact hD
        have hs5 : wr.heap.size < w5.heap.size := by have := hg5.size; simp at this; omega
        have HC5 : Hid (w5.cell? ⟨wr.heap.size, 0, none⟩ = some (.int .i64 (scan x (sel % 3) n true sv k).2)) := hC5
        have HD5 : Hid (w5.cell? ⟨w.heap.size, 0, none⟩ = some (.bool sv)) := hD5
        clear hC5 hD5 hg5 hp HR hbk hD hn0 hn1 hn2 HK hlt
        go_wp2_with fail
        go_loopg [18, 19, 20, 22] k (fun g wa wc ws i wl => ∃ m : Nat, m + g = k ∧ i = .int .i64 m ∧ wa = .int .i64 (scan x (sel % 3) n true sv m).1 ∧ wc = .int .i64 (scan x (sel % 3) n true sv m).2 ∧ (∃ z : Int, ws = .int .i64 z ∧ (0 ≤ (scan x (sel % 3) n true sv m).1 → z = x.seen (scan x (sel % 3) n true sv m).1.toNat)) ∧ w5.grownBy wl none)
        case atStart => exact ⟨0, by omega, rfl, rfl, rfl, ⟨0, rfl, fun h => absurd h (by simp [scan])⟩, World.grownBy.refl _ _⟩
        case round =>
          obtain ⟨m, hm, rfl, rfl, rfl, ⟨z, rfl, hz⟩, hgl⟩ := hrel
          obtain ⟨bd1, bd2, bd3, bd4⟩ := scan_bd x (sel % 3) n true sv m
          obtain ⟨fd, hfd⟩ : ∃ fd, fd = (scan x (sel % 3) n true sv m).1 := ⟨_, rfl⟩
          rw [← hfd] at bd1 bd2 hz ⊢
          have HF : Hid (fd = (scan x (sel % 3) n true sv m).1) := hfd
          clear hfd
          obtain ⟨c, hcc⟩ : ∃ c, c = (scan x (sel % 3) n true sv m).2 := ⟨_, rfl⟩
          rw [← hcc] at bd3 bd4 ⊢
          have HF2 : Hid (c = (scan x (sel % 3) n true sv m).2) := hcc
          clear hcc
          have HZ : Hid (0 ≤ fd → z = x.seen fd.toNat) := hz
          have HMK : Hid (m + gk = k) := hm
          clear hz hm
          have hs6 := Nat.lt_of_lt_of_le hs5 hgl.size
          by_cases hlt : m < k
          · have had := HAD.out (by omega)
            subst had
            have hxm := HX.out m hlt
            have hbw : b < w.heap.size := World.block_lt_of_cell? w _ hxm.c0
            have hbw5 : b < w5.heap.size := by omega
            have e0 : wr.cell? ⟨b, off + m * 4, none⟩ = some (.int .i16 (x.a m)) := (hgl.cell_far ⟨b, off + m * 4, none⟩ hbw5 (by simp)).trans ((hB5.cell (p := ⟨b, off + m * 4, none⟩) hbw).trans hxm.c0)
            have e1 : wr.cell? ⟨b, off + m * 4 + 1, none⟩ = some (.int .i16 (x.q m)) := (hgl.cell_far ⟨b, off + m * 4 + 1, none⟩ hbw5 (by simp)).trans ((hB5.cell (p := ⟨b, off + m * 4 + 1, none⟩) hbw).trans hxm.c1)
            have e2 : wr.cell? ⟨b, off + m * 4 + 2, none⟩ = some (.int .i64 (x.f m)) := (hgl.cell_far ⟨b, off + m * 4 + 2, none⟩ hbw5 (by simp)).trans ((hB5.cell (p := ⟨b, off + m * 4 + 2, none⟩) hbw).trans hxm.c2)
            have e3 : wr.cell? ⟨b, off + m * 4 + 3, none⟩ = some (.bool (x.v m)) := (hgl.cell_far ⟨b, off + m * 4 + 3, none⟩ hbw5 (by simp)).trans ((hB5.cell (p := ⟨b, off + m * 4 + 3, none⟩) hbw).trans hxm.c3)
            have eD : wr.cell? ⟨w.heap.size, 0, none⟩ = some (.bool sv) := (hgl.cell_far ⟨w.heap.size, 0, none⟩ (by simp; omega) (by simp)).trans HD5.out
            have hDs : w.heap.size < wr.heap.size := by omega
            obtain ⟨ma, mq⟩ := HM.out m hlt
            obtain ⟨a1, a2⟩ := ma
            obtain ⟨q1, q2⟩ := mq
            clear hxm
            go_upto_if 103 with fail
            go_cut [26] from 85 to 137 (fun st wc => st = .int .i64 (x.st n m) ∧ wc = wr.alloc (.cells #[.int .i16 (x.a m), .int .i16 (x.q m), .int .i64 (x.f m), .bool (x.v m)] 35))
            case first =>
              by_cases hf : 2 ≤ x.f m
              · go_wp2_with fail
                go_meet
                exact ⟨vint (by simp [Ents.st, stOf, hf]), rfl⟩
              · by_cases h1 : n - x.a m < 15
                · go_wp2_with fail
                  go_meet
                  exact ⟨vint (by unfold Ents.st stOf; rw [if_neg (by omega), if_pos (by omega)]), rfl⟩
                · by_cases h2 : n - x.q m < 15
                  · go_wp2_with fail
                    go_meet
                    exact ⟨vint (by unfold Ents.st stOf; rw [if_neg (by omega), if_pos (by omega)]), rfl⟩
                  · go_wp2_with fail
                    go_meet
                    exact ⟨vint (by unfold Ents.st stOf; rw [if_neg (by omega), if_neg (by omega)]), rfl⟩
            case rest =>
              obtain ⟨rfl, rfl⟩ := hcut
              obtain ⟨t, ht⟩ : ∃ t, t = x.st n m := ⟨_, rfl⟩
              rw [← ht]
              have HT : Hid (t = x.st n m) := ht
              clear ht
              by_cases hts : t = sel % 3
              case neg =>
                have hts' : (t != sel % 3) = true := by simpa using hts
                have HN : Hid (¬ t = sel % 3) := hts
                clear hts
                go_wp2_with fail
                go_roundg (gk - 1)
                case rel =>
                  have hsc := scan_ne (us := true) (sv := sv) (show x.st n m ≠ sel % 3 by rw [← HT.out]; exact HN.out)
                  exact ⟨m + 1, by have := HMK.out; omega, by go_num, vint (by rw [hsc]; exact HF.out), vint (by rw [hsc]; exact HF2.out), ⟨z, rfl, fun h => by rw [hsc, ← HF.out] at h ⊢; exact HZ.out h⟩, grown_trans hgl (World.grownBy_alloc _ _ _)⟩
                case measure => have := HMK.out; omega
              have hts' : (t != sel % 3) = false := by simpa using hts
              have HT : Hid (sel % 3 = x.st n m) := hts ▸ HT.out
              clear hts
              by_cases hvk : x.v m = sv
              · have hvb : (x.v m == sv) = true := by simpa using hvk
                have HV : Hid (x.v m = sv) := hvk
                clear hvk
                go_wp2_with fail
                go_roundg (gk - 1)
                case rel =>
                  have hsc := scan_skip (us := true) HT.out.symm rfl HV.out
                  exact ⟨m + 1, by have := HMK.out; omega, by go_num, vint (by rw [hsc]; exact HF.out), vint (by rw [hsc, ← HF2.out]), ⟨z, rfl, fun h => by rw [hsc] at h ⊢; simp only at h ⊢; rw [← HF.out] at h ⊢; exact HZ.out h⟩, grown_trans hgl (World.grownBy_alloc _ _ _)⟩
                case measure => have := HMK.out; omega
              have hvb : (x.v m == sv) = false := by simpa using hvk
              have HV : Hid (¬ x.v m = sv) := hvk
              clear hvk
              go_upto_if 127 with fail
              go_cut [27] from 85 to 137 (fun sn wc => sn = .int .i64 (x.seen m) ∧ wc = wr.alloc (.cells #[.int .i16 (x.a m), .int .i16 (x.q m), .int .i64 (x.f m), .bool (x.v m)] 35))
              case first =>
                by_cases hqa : x.a m < x.q m
                · go_wp2_with fail
                  go_meet
                  exact ⟨vint (by simp [Ents.seen, hqa]), rfl⟩
                · have hqa' : x.q m ≤ x.a m := by omega
                  go_wp2_with fail
                  go_meet
                  exact ⟨vint (by simp [Ents.seen]; omega), rfl⟩
              case rest =>
                obtain ⟨rfl, rfl⟩ := hcut
                obtain ⟨sn, hsn⟩ : ∃ sn, sn = x.seen m := ⟨_, rfl⟩
                rw [← hsn]
                have HSN : Hid (sn = x.seen m) := hsn
                clear hsn
                by_cases hneg : fd < 0
                · go_wp2_with fail
                  go_roundg (gk - 1)
                  case rel =>
                    have hsc := scan_take (us := true) (sv := sv) HT.out.symm (by intro h; exact HV.out h.2) (Or.inl (by rw [← HF.out]; exact hneg))
                    exact ⟨m + 1, by have := HMK.out; omega, by go_num, vint (by rw [hsc]), vint (by rw [hsc]; simp only [if_true]; rw [← HF2.out]), ⟨sn, rfl, fun _ => by rw [hsc]; exact HSN.out⟩, grown_trans hgl (World.grownBy_alloc _ _ _)⟩
                  case measure => have := HMK.out; omega
                · have hz' : Hid (z = x.seen fd.toNat) := HZ.out (by omega)
                  by_cases hcmp : sn < z
                  · go_wp2_with fail
                    go_roundg (gk - 1)
                    case rel =>
                      have hsc := scan_take (us := true) (sv := sv) HT.out.symm (by intro h; exact HV.out h.2) (Or.inr (by rw [← HF.out, ← HSN.out, ← hz'.out]; exact hcmp))
                      exact ⟨m + 1, by have := HMK.out; omega, by go_num, vint (by rw [hsc]), vint (by rw [hsc]; simp only [if_true]; rw [← HF2.out]), ⟨sn, rfl, fun _ => by rw [hsc]; exact HSN.out⟩, grown_trans hgl (World.grownBy_alloc _ _ _)⟩
                    case measure => have := HMK.out; omega
                  · go_wp2_with fail
                    go_roundg (gk - 1)
                    case rel =>
                      have hsc := scan_keep (us := true) (sv := sv) HT.out.symm (by intro h; exact HV.out h.2) (by rw [← HF.out, ← HSN.out, ← hz'.out]; intro h; omega)
                      exact ⟨m + 1, by have := HMK.out; omega, by go_num, vint (by rw [hsc]; exact HF.out), vint (by rw [hsc]; simp only [if_true]; rw [← HF2.out]), ⟨z, rfl, fun _ => by rw [hsc, ← HF.out]; exact hz'.out⟩, grown_trans hgl (World.grownBy_alloc _ _ _)⟩
                    case measure => have := HMK.out; omega
          · have hmk : m = k := by have := HMK.out; omega
            subst hmk
            have eC := cell_kept hgl hs5 HC5.out
            rw [← HF2.out] at eC
            rw [← HF.out]
            clear HC5
            go_wp2_with fail
            go_ret
            exact ⟨by simp, hB5.trans ⟨hgl.os, hgl.tape, hgl.output, hgl.size, fun i hi => hgl.block i (by have := hB5.size; omega) (by simp)⟩⟩

end Go.Proofs.Ybulkagls
