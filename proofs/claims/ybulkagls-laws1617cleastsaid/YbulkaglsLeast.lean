/-
  WALKS: (*bucket).leastSeen computes 'scan'.
-/
import Derived.Test.YbulkaglsStatus
import Derived.Deep.LoopGhost
import Derived.Deep.AppendLies
import Derived.WalkSmall
namespace Go.Proofs.Ybulkagls
open Go.RowKit

/-- The entries, by their index. -/
structure Ents where
  a : Nat → Int
  q : Nat → Int
  f : Nat → Int
  v : Nat → Bool

def Ents.seen (x : Ents) (j : Nat) : Int := if x.a j < x.q j then x.q j else x.a j
def Ents.st (x : Ents) (n : Int) (j : Nat) : Int := stOf (x.f j) (x.a j) (x.q j) n

/-- What leastSeen has found, and how often it has asked skip, behind k rounds. -/
def scan (x : Ents) (s n : Int) (us sv : Bool) : Nat → Int × Int
  | 0 => (-1, 0)
  | k + 1 =>
    if x.st n k ≠ s then scan x s n us sv k
    else if us = true ∧ x.v k = sv then ((scan x s n us sv k).1, (scan x s n us sv k).2 + 1)
    else (if (scan x s n us sv k).1 < 0 ∨ x.seen k < x.seen (scan x s n us sv k).1.toNat then (k : Int) else (scan x s n us sv k).1,
          if us = true then (scan x s n us sv k).2 + 1 else (scan x s n us sv k).2)

theorem scan_bd (x : Ents) (s n : Int) (us sv : Bool) (k : Nat) : -1 ≤ (scan x s n us sv k).1 ∧ (scan x s n us sv k).1 < k ∧ 0 ≤ (scan x s n us sv k).2 ∧ (scan x s n us sv k).2 ≤ k := by
  induction k with
  | zero => simp [scan]
  | succ k ih =>
    obtain ⟨h1, h2, h3, h4⟩ := ih
    simp only [scan]
    split
    · refine ⟨h1, by omega, h3, by omega⟩
    · split
      · refine ⟨h1, by simp only; omega, by simp only; omega, by simp only; omega⟩
      · refine ⟨?_, ?_, ?_, ?_⟩ <;> simp only <;> split <;> omega

theorem scan_ne {x : Ents} {s n : Int} {us sv : Bool} {k : Nat} (h : x.st n k ≠ s) : scan x s n us sv (k + 1) = scan x s n us sv k := by
  simp only [scan]; rw [if_pos h]
theorem scan_skip {x : Ents} {s n : Int} {us sv : Bool} {k : Nat} (h : x.st n k = s) (hu : us = true) (hv : x.v k = sv) : scan x s n us sv (k + 1) = ((scan x s n us sv k).1, (scan x s n us sv k).2 + 1) := by
  simp only [scan]; rw [if_neg (by simp [h]), if_pos ⟨hu, hv⟩]
theorem scan_take {x : Ents} {s n : Int} {us sv : Bool} {k : Nat} (h : x.st n k = s) (hu : ¬ (us = true ∧ x.v k = sv)) (ht : (scan x s n us sv k).1 < 0 ∨ x.seen k < x.seen (scan x s n us sv k).1.toNat) :
    scan x s n us sv (k + 1) = ((k : Int), if us = true then (scan x s n us sv k).2 + 1 else (scan x s n us sv k).2) := by
  simp only [scan]; rw [if_neg (by simp [h]), if_neg hu, if_pos ht]
theorem scan_keep {x : Ents} {s n : Int} {us sv : Bool} {k : Nat} (h : x.st n k = s) (hu : ¬ (us = true ∧ x.v k = sv)) (ht : ¬ ((scan x s n us sv k).1 < 0 ∨ x.seen k < x.seen (scan x s n us sv k).1.toNat)) :
    scan x s n us sv (k + 1) = ((scan x s n us sv k).1, if us = true then (scan x s n us sv k).2 + 1 else (scan x s n us sv k).2) := by
  simp only [scan]; rw [if_neg (by simp [h]), if_neg hu, if_neg ht]

theorem vint {k : IntKind} {a b : Int} (h : a = b) : Value.int k a = .int k b := by rw [h]

/-- The 32 cells of an entry. -/
def eCells (x : Ents) (j : Nat) : List Value :=
  [.int .u8 0, .int .u8 0, .int .u8 0, .int .u8 0, .int .u8 0, .int .u8 0, .int .u8 0, .int .u8 0, .int .u8 0, .int .u8 0, .int .u8 0, .int .u8 0, .int .u8 0, .int .u8 0, .int .u8 0, .int .u8 0, .int .u8 0, .int .u8 0, .int .u8 0, .int .u8 0,
   .int .u64 0, .int .u64 0, .pointer none, .int .u16 0, .int .u64 0, .int .i64 (x.a j * 60), .pointer none, .int .u64 0, .int .i64 (x.q j * 60), .pointer none, .int .i64 (x.f j), .bool (x.v j)]

theorem entry_of_range {w : World} {E o : Nat} {x : Ents} {j : Nat} (h : w.rangeAt E o (eCells x j)) : Entry w E o (x.a j) (x.q j) (x.f j) (x.v j) :=
  ⟨h 24 _ rfl, h 25 _ rfl, h 26 _ rfl, h 27 _ rfl, h 28 _ rfl, h 29 _ rfl, h 30 _ rfl, h 31 _ rfl⟩

theorem Entry.below {w w' : World} {B E o : Nat} {a q f : Int} {v : Bool} (h : Entry w E o a q f v) (hb : Below B w w') (hE : E < B) : Entry w' E o a q f v := by
  obtain ⟨h0, h1, h2, h3, h4, h5, h6, h7⟩ := h
  refine ⟨?_, ?_, ?_, ?_, ?_, ?_, ?_, ?_⟩ <;> (rw [hb.cell hE]; assumption)

theorem Entry.drew {w : World} {E o : Nat} {a q f : Int} {v : Bool} (h : Entry w E o a q f v) : Entry w.drew E o a q f v := ⟨h.c24, h.c25, h.c26, h.c27, h.c28, h.c29, h.c30, h.c31⟩

theorem Entry.lt {w : World} {E o : Nat} {a q f : Int} {v : Bool} (h : Entry w E o a q f v) : E < w.heap.size := World.block_lt_of_cell? w ⟨E, o + 30, none⟩ h.c30

theorem grown_trans {w w1 w2 : World} {row : Option Nat} (h : w.grownBy w1 row) (k : w1.grownBy w2 row) : w.grownBy w2 row :=
  ⟨k.os.trans h.os, k.tape.trans h.tape, k.output.trans h.output, Nat.le_trans h.size k.size, fun i hi hr => (k.block i (Nat.lt_of_lt_of_le hi h.size) hr).trans (h.block i hi hr)⟩

theorem grown_of_below {w w1 : World} (row : Option Nat) (h : Below w.heap.size w w1) : w.grownBy w1 row :=
  ⟨h.os, h.tape, h.output, h.size, fun i hi _ => h.block i hi⟩

theorem grown_setCell (w : World) (C o : Nat) (u : Value) : w.grownBy (w.setCell ⟨C, o, none⟩ u) (some C) :=
  ⟨rfl, rfl, rfl, by simp [World.setCell], fun i _ hr => Below.heap_setCell _ _ _ _ (by intro e; exact hr (by rw [e]))⟩

theorem grown_cells {w w1 : World} {row : Option Nat} (h : w.grownBy w1 row) : (∀ b o, b < w.heap.size → some b ≠ row → w1.cell? ⟨b, o, none⟩ = w.cell? ⟨b, o, none⟩) ∧ (∀ b o, b < w.heap.size → some b ≠ row → w1.frozen? ⟨b, o, none⟩ = w.frozen? ⟨b, o, none⟩) :=
  ⟨fun b o hb hr => h.cell_far ⟨b, o, none⟩ hb hr, fun b o hb hr => h.frozen_far ⟨b, o, none⟩ hb hr⟩

theorem range_grown {w w1 : World} {row : Option Nat} (h : w.grownBy w1 row) {E o : Nat} {cs : List Value} (hr : w.rangeAt E o cs) (hE : E < w.heap.size) (hne : some E ≠ row) : w1.rangeAt E o cs :=
  fun j v hv => by rw [h.cell_far ⟨E, o + j, none⟩ hE hne]; exact hr j v hv

/-- What leastSeen reads: the bucket at block Bk, its entries in block E. -/
structure Bkt (w : World) (Bk E len : Nat) (x : Ents) : Prop where
  hB : w.cell? ⟨Bk, 0, none⟩ = some (.slice (some ⟨E, 0, none⟩) len len)
  hE : E < w.heap.size
  he : ∀ j, j < len → w.rangeAt E (j * 32) (eCells x j)

theorem Bkt.grown {w w1 : World} {Bk E len : Nat} {x : Ents} {row : Option Nat} (h : Bkt w Bk E len x) (hg : w.grownBy w1 row) (h1 : some Bk ≠ row) (h2 : some E ≠ row) : Bkt w1 Bk E len x :=
  ⟨by rw [hg.cell_far ⟨Bk, 0, none⟩ (World.block_lt_of_cell? w ⟨Bk, 0, none⟩ h.hB) h1]; exact h.hB, Nat.lt_of_lt_of_le h.hE hg.size, fun j hj => range_grown hg (h.he j hj) h.hE h2⟩

theorem seen_ent (x : Ents) (j E o : Nat) (w : World) (h : Entry w E o (x.a j) (x.q j) (x.f j) (x.v j)) :
    Calls Yba.prog 9 #[.pointer (some ⟨E, o, none⟩)] w fun e w' => e = .returned (tm (x.seen j * 60)) ∧ Below w.heap.size w w' := seen_any E o (x.a j) (x.q j) (x.f j) (x.v j) w h

/-- The instant that leastSeen boxes. -/
abbrev box (n : Int) : Obj := .cells #[.int .u64 0, .int .i64 (n * 60), .pointer none] 28

theorem in_round {w wr : World} {Bk E len : Nat} {x : Ents} {n : Int} {row : Option Nat} (hb : Bkt w Bk E len x) (hg : (w.alloc (box n)).grownBy wr row) (h1 : some Bk ≠ row) (h2 : some E ≠ row) (h3 : some w.heap.size ≠ row) :
    Bkt wr Bk E len x ∧ w.heap.size < wr.heap.size ∧ wr.cell? ⟨w.heap.size, 0, none⟩ = some (.int .u64 0) ∧ wr.cell? ⟨w.heap.size, 1, none⟩ = some (.int .i64 (n * 60)) ∧ wr.cell? ⟨w.heap.size, 2, none⟩ = some (.pointer none) := by
  have hs : w.heap.size < (w.alloc (box n)).heap.size := by simp
  refine ⟨(hb.grown (World.grownBy_alloc w (box n) row) h1 h2).grown hg h1 h2, Nat.lt_of_lt_of_le hs hg.size, ?_, ?_, ?_⟩
  all_goals (rw [hg.cell_far _ hs h3]; simp)

theorem held_step {W w' : World} {Bk E o1 o2 : Nat} {u : Value} {a q f a' q' f' : Int} {v v' : Bool} (h : W.cell? ⟨Bk, 0, none⟩ = some u ∧ Entry W E o1 a q f v ∧ Entry W E o2 a' q' f' v') (hb : Below W.heap.size W w') :
    w'.cell? ⟨Bk, 0, none⟩ = some u ∧ Entry w' E o1 a q f v ∧ Entry w' E o2 a' q' f' v' :=
  ⟨by rw [hb.cell (World.block_lt_of_cell? W ⟨Bk, 0, none⟩ h.1)]; exact h.1, h.2.1.below hb h.2.1.lt, h.2.2.below hb h.2.2.lt⟩

theorem held_two {W : World} {Bk E o1 o2 : Nat} {u : Value} {a q f a' q' f' : Int} {v v' : Bool} (h : W.cell? ⟨Bk, 0, none⟩ = some u ∧ Entry W E o1 a q f v ∧ Entry W E o2 a' q' f' v') (x y : Obj) :
    ((W.alloc x).alloc y).cell? ⟨Bk, 0, none⟩ = some u ∧ Entry ((W.alloc x).alloc y) E o1 a q f v ∧ Entry ((W.alloc x).alloc y) E o2 a' q' f' v' :=
  held_step h (((Below.refl _ _).alloc (Nat.le_refl _) _).alloc (by simp) _)

theorem seen_world {w1 w2 w3 : World} (h2 : Below w1.drew.heap.size w1.drew w2) (h3 : Below w2.heap.size w2 w3) (a b : Obj) : Below w1.heap.size w1 ((w3.alloc a).alloc b) := by
  have h2' : Below w1.heap.size w1 w2 := below_undrew h2
  have hs : w1.heap.size ≤ w3.heap.size := Nat.le_trans h2'.size h3.size
  exact ((h2'.trans (h3.mono h2'.size)).alloc hs _).alloc (by simp; omega) _

set_option maxHeartbeats 1600000 in
theorem least_nil (Bk E len : Nat) (x : Ents) (s n : Int) (sv : Bool) (w : World) (hlen : len ≤ 1024) (hb : Bkt w Bk E len x) (hn : Min n) (hm : ∀ j, j < len → Min (x.a j) ∧ Min (x.q j)) :
    Calls Yba.prog 6 #[.pointer (some ⟨Bk, 0, none⟩), .int .i64 s, tm (n * 60), .nilFunc] w fun e w' => e = .returned (.int .i64 (scan x s n false sv len).1) ∧ w.grownBy w' none := by
  have hB := hb.hB
  have hBl : Bk < w.heap.size := World.block_lt_of_cell? w ⟨Bk, 0, none⟩ hB
  have hBne : ¬ w.heap.size = Bk := by omega
  have hnn : ∀ wx, (binOp .neq 52 .nilFunc .nilFunc).run Yba.prog wx = .ok (.bool false) wx := fun _ => by kernel_rfl
  go_enter Yba.func6, Yba.ntmps6
  go_wp2
  go_loopg [9, 17] len (fun g fd i wr => ∃ k : Nat, k + g = len ∧ i = .int .i64 k ∧ fd = .int .i64 (scan x s n false sv k).1 ∧ (w.alloc (box n)).grownBy wr none)
  case atStart => exact ⟨0, by omega, rfl, rfl, World.grownBy.refl _ _⟩
  case round =>
    obtain ⟨k, hk, rfl, rfl, hg⟩ := hrel
    have hbd := scan_bd x s n false sv k
    obtain ⟨bd1, bd2, -, -⟩ := hbd
    obtain ⟨hbr, hsz, n0, n1, n2⟩ := in_round hb hg (by simp) (by simp) (by simp)
    have HG : Hid ((w.alloc (box n)).grownBy wr none) := hg
    have HK : Hid (k + gk = len) := hk
    have hBr := hbr.hB
    clear hg hk hB hb
    by_cases hlt : k < len
    · have hen := entry_of_range (hbr.he k hlt)
      obtain ⟨ma, mq⟩ := hm k hlt
      have HM : Hid (∀ j, j < len → Min (x.a j) ∧ Min (x.q j)) := hm
      clear hm
      have h0 : (0 : Int) ≤ (k : Int) := by omega
      have h1 : (k : Int) < (len : Int) := by omega
      obtain ⟨fd, hfd⟩ : ∃ fd, fd = (scan x s n false sv k).1 := ⟨_, rfl⟩
      rw [← hfd] at bd1 bd2 ⊢
      have HF : Hid (fd = (scan x s n false sv k).1) := hfd
      clear hfd
      have hst := status_any E (k * 32) (x.a k) (x.q k) (x.f k) n (x.v k) wr hen ma mq hn
      obtain ⟨t, ht⟩ : ∃ t, t = x.st n k := ⟨_, rfl⟩
      have hst2 : Calls Yba.prog 8 #[.pointer (some ⟨E, k * 32, none⟩), tm (n * 60)] wr fun e w' => e = .returned (.int .i64 t) ∧ Below wr.heap.size wr w' := by rw [ht]; exact hst
      have HT : Hid (t = x.st n k) := ht
      have HST := hst2
      clear ht hst hst2
      by_cases hts : t = s
      · subst hts
        go_wp2_with fail
        refine HST.mono ?_
        rintro e w1 ⟨rfl, hb1⟩
        clear HST
        have hbr1 := hbr.grown (grown_of_below none hb1) (by simp) (by simp)
        have hB1 := hbr1.hB
        have hen1 := entry_of_range (hbr1.he k hlt)
        have HG1 : Hid ((w.alloc (box n)).grownBy w1 none) := grown_trans HG.out (grown_of_below none hb1)
        clear hen hbr HG hBr n0 n1 n2
        by_cases hneg : fd < 0
        · go_wp2_with fail
          go_quiet (fail)
          go_wp2_with fail
          go_roundg (gk - 1)
          case rel => exact ⟨k + 1, by have := HK.out; omega, by go_num, vint (by rw [scan_take HT.out.symm (by simp) (Or.inl (by rw [← HF.out]; exact hneg))]), grown_trans HG1.out (grown_of_below _ (below_drewN (Below.refl _ _) nq))⟩
          case measure => have := HK.out; omega
        · have hef := entry_of_range (hbr1.he fd.toNat (by omega))
          have f0 : (0 : Int) ≤ fd := by omega
          have f1 : fd < (len : Int) := by omega
          have fz : decide (fd < 0) = false := by simp; omega
          clear hneg
          by_cases hcmp : x.seen k < x.seen fd.toNat
          · have hc6 : x.seen k * 60 < x.seen fd.toNat * 60 := by omega
            have HC : Hid (x.seen k < x.seen fd.toNat) := hcmp
            clear hcmp
            go_wp2_with fail
            have H0 : w1.drew.cell? ⟨Bk, 0, none⟩ = some (.slice (some ⟨E, 0, none⟩) len len) ∧ Entry w1.drew E (k * 32) (x.a k) (x.q k) (x.f k) (x.v k) ∧ Entry w1.drew E (fd.toNat * 32) (x.a fd.toNat) (x.q fd.toNat) (x.f fd.toNat) (x.v fd.toNat) := ⟨hB1, hen1.drew, hef.drew⟩
            have tok1 : True := trivial
            go_region_held3 (fun w' => w'.cell? ⟨Bk, 0, none⟩ = some (.slice (some ⟨E, 0, none⟩) len len) ∧ Entry w' E (k * 32) (x.a k) (x.q k) (x.f k) (x.v k) ∧ Entry w' E (fd.toNat * 32) (x.a fd.toNat) (x.q fd.toNat) (x.f fd.toNat) (x.v fd.toNat)) (first | exact H0 | exact held_step H0 hb2 | exact held_step (held_step H0 hb2) hb3 | exact held_two (held_step (held_step H0 hb2) hb3) _ _)
              (first
                | (go_at_call 9; have _t := tok1; refine (seen_ent x k E (k * 32) _ (by exact H0.2.1)).mono ?_; rintro e w2 ⟨rfl, hb2⟩; clear tok1 _t)
                | (go_at_call 9; refine (seen_ent x fd.toNat E (fd.toNat * 32) _ (by exact (held_step H0 hb2).2.2)).mono ?_; rintro e w3 ⟨rfl, hb3⟩)
                | (go_at_call 10; refine (before_any _ _ _).mono ?_; rintro e w4 ⟨rfl, c1, c2, rfl⟩))
            go_wp2_with fail
            go_roundg (gk - 1)
            case rel => exact ⟨k + 1, by have := HK.out; omega, by go_num, vint (by rw [scan_take HT.out.symm (by simp) (Or.inr (by rw [← HF.out]; exact HC.out))]), grown_trans HG1.out (grown_of_below _ (seen_world hb2 hb3 _ _))⟩
            case measure => have := HK.out; omega
          · have hc6 : ¬ x.seen k * 60 < x.seen fd.toNat * 60 := by omega
            have HC : Hid (¬ x.seen k < x.seen fd.toNat) := hcmp
            clear hcmp
            go_wp2_with fail
            have H0 : w1.drew.cell? ⟨Bk, 0, none⟩ = some (.slice (some ⟨E, 0, none⟩) len len) ∧ Entry w1.drew E (k * 32) (x.a k) (x.q k) (x.f k) (x.v k) ∧ Entry w1.drew E (fd.toNat * 32) (x.a fd.toNat) (x.q fd.toNat) (x.f fd.toNat) (x.v fd.toNat) := ⟨hB1, hen1.drew, hef.drew⟩
            have tok1 : True := trivial
            go_region_held3 (fun w' => w'.cell? ⟨Bk, 0, none⟩ = some (.slice (some ⟨E, 0, none⟩) len len) ∧ Entry w' E (k * 32) (x.a k) (x.q k) (x.f k) (x.v k) ∧ Entry w' E (fd.toNat * 32) (x.a fd.toNat) (x.q fd.toNat) (x.f fd.toNat) (x.v fd.toNat)) (first | exact H0 | exact held_step H0 hb2 | exact held_step (held_step H0 hb2) hb3 | exact held_two (held_step (held_step H0 hb2) hb3) _ _)
              (first
                | (go_at_call 9; have _t := tok1; refine (seen_ent x k E (k * 32) _ (by exact H0.2.1)).mono ?_; rintro e w2 ⟨rfl, hb2⟩; clear tok1 _t)
                | (go_at_call 9; refine (seen_ent x fd.toNat E (fd.toNat * 32) _ (by exact (held_step H0 hb2).2.2)).mono ?_; rintro e w3 ⟨rfl, hb3⟩)
                | (go_at_call 10; refine (before_any _ _ _).mono ?_; rintro e w4 ⟨rfl, c1, c2, rfl⟩))
            go_wp2_with fail
            go_roundg (gk - 1)
            case rel => exact ⟨k + 1, by have := HK.out; omega, by go_num, vint (by rw [scan_keep HT.out.symm (by simp) (by rw [← HF.out]; intro h; have := HC.out; omega)]; exact HF.out), grown_trans HG1.out (grown_of_below _ (seen_world hb2 hb3 _ _))⟩
            case measure => have := HK.out; omega
      · have hts' : (t != s) = true := by simpa using hts
        have HN : Hid (¬ t = s) := hts
        clear hts
        go_wp2_with fail
        refine HST.mono ?_
        rintro e w1 ⟨rfl, hb1⟩
        clear HST
        go_wp2_with fail
        go_roundg (gk - 1)
        case rel => exact ⟨k + 1, by have := HK.out; omega, by go_num, vint (by rw [scan_ne (by rw [← HT.out]; exact HN.out)]; exact HF.out), grown_trans HG.out (grown_of_below none hb1)⟩
        case measure => have := HK.out; omega
    · have hkl : k = len := by have := HK.out; omega
      subst hkl
      go_wp2_with fail
      go_ret
      exact ⟨rfl, grown_trans (World.grownBy_alloc w (box n) none) HG.out⟩

theorem skip_ent (x : Ents) (k C D : Nat) (c : Int) (sv : Bool) (w : World) (hC : w.cell? ⟨C, 0, none⟩ = some (.int .i64 c)) (hCf : w.frozen? ⟨C, 0, none⟩ = false) (hc : 0 ≤ c ∧ c ≤ 100000) (hD : w.cell? ⟨D, 0, none⟩ = some (.bool sv)) (hCD : ¬ D = C) :
    Calls Yba.prog 5 #[.agg (eCells x k).toArray, .pointer (some ⟨C, 0, none⟩), .pointer (some ⟨D, 0, none⟩)] w fun e w' => e = .returned (.bool (x.v k == sv)) ∧ w.grownBy w' (some C) ∧ w'.cell? ⟨C, 0, none⟩ = some (.int .i64 (c + 1)) ∧ w'.frozen? ⟨C, 0, none⟩ = false := by
  refine (skip_any (eCells x k).toArray C D c (x.v k) sv w rfl hC hCf hc hD hCD).mono ?_
  rintro e w' ⟨rfl, rfl⟩
  have hl : C < (w.setCell ⟨C, 0, none⟩ (.int .i64 (c + 1))).heap.size := by have := World.block_lt_of_cell? w ⟨C, 0, none⟩ hC; simpa [World.setCell] using this
  refine ⟨rfl, grown_trans (grown_setCell w C 0 _) (World.grownBy_alloc _ _ _), ?_, ?_⟩
  · rw [World.cell?_alloc_lt _ _ ⟨C, 0, none⟩ hl]; exact World.cell?_setCell_same w ⟨C, 0, none⟩ _ hC
  · rw [World.frozen?_alloc_old _ _ ⟨C, 0, none⟩ (Nat.ne_of_lt hl), World.frozen?_setCell]; exact hCf

theorem cnt_after {w5 w' : World} {C : Nat} {c d : Int} (hb : Below w5.heap.size w5 w') (hc : w5.cell? ⟨C, 0, none⟩ = some (.int .i64 c)) (hf : w5.frozen? ⟨C, 0, none⟩ = false) (he : d = c) :
    w'.cell? ⟨C, 0, none⟩ = some (.int .i64 d) ∧ w'.frozen? ⟨C, 0, none⟩ = false := by
  have hl := World.block_lt_of_cell? w5 ⟨C, 0, none⟩ hc
  rw [hb.cell hl, hb.frozen hl, he]
  exact ⟨hc, hf⟩

theorem wpList_load_mid_w {P : Program} {ops : Array Oper} {rest : List Oper} {op : Oper} {a : Act} {w : World} {Q : Exit → Act → World → Prop} (hw : Region.wanted op (yielded ops a.tmps) = true) (ty : TypeId) (x : Operand) (ho : op.op = .load ty x)
    (b o : Nat) (hx : a.eval x = .pointer (some ⟨b, o, none⟩)) (cs : List Value) (d : TypeDesc) (hc : w.rangeAt b o cs)
    (hu : P.underlying ty = some d) (hd : d.isRow = true) (hi : (P.info? ty).map (·.size) = some cs.length)
    (h : wpList P ops Q rest (a.put op.dst (.agg cs.toArray)) w) : wpList P ops Q (op :: rest) a w :=
  wpList_step fun K hK => by rw [if_pos hw]; exact wp_load_mid ty x ho b o hx cs d hc hu hd hi (hK _ _ h)

theorem info51 : (Yba.prog.info? 51).map (·.size) = some 32 := by kernel_rfl

set_option maxHeartbeats 3200000 in
theorem least_fn (Bk E C D len : Nat) (x : Ents) (s n : Int) (sv : Bool) (w : World) (hlen : len ≤ 1024) (hb : Bkt w Bk E len x) (hn : Min n) (hm : ∀ j, j < len → Min (x.a j) ∧ Min (x.q j))
    (hBC : Bk ≠ C) (hEC : E ≠ C) (hDC : ¬ D = C) (hC : w.cell? ⟨C, 0, none⟩ = some (.int .i64 0)) (hCf : w.frozen? ⟨C, 0, none⟩ = false) (hD : w.cell? ⟨D, 0, none⟩ = some (.bool sv)) :
    Calls Yba.prog 6 #[.pointer (some ⟨Bk, 0, none⟩), .int .i64 s, tm (n * 60), .func (.func 5) #[] #[.pointer (some ⟨C, 0, none⟩), .pointer (some ⟨D, 0, none⟩)]] w fun e w' => e = .returned (.int .i64 (scan x s n true sv len).1) ∧ w.grownBy w' (some C) ∧ w'.cell? ⟨C, 0, none⟩ = some (.int .i64 (scan x s n true sv len).2) := by
  have hB := hb.hB
  have hBl : Bk < w.heap.size := World.block_lt_of_cell? w ⟨Bk, 0, none⟩ hB
  have hCl : C < w.heap.size := World.block_lt_of_cell? w ⟨C, 0, none⟩ hC
  have hDl : D < w.heap.size := World.block_lt_of_cell? w ⟨D, 0, none⟩ hD
  have hBne : ¬ w.heap.size = Bk := by omega
  have hnn : ∀ wx, (binOp .neq 52 (.func (.func 5) #[] #[.pointer (some ⟨C, 0, none⟩), .pointer (some ⟨D, 0, none⟩)]) .nilFunc).run Yba.prog wx = .ok (.bool true) wx := fun _ => by kernel_rfl
  go_enter Yba.func6, Yba.ntmps6
  go_wp2
  go_loopg [9, 17] len (fun g fd i wr => ∃ k : Nat, k + g = len ∧ i = .int .i64 k ∧ fd = .int .i64 (scan x s n true sv k).1 ∧ (w.alloc (box n)).grownBy wr (some C) ∧ wr.cell? ⟨C, 0, none⟩ = some (.int .i64 (scan x s n true sv k).2) ∧ wr.frozen? ⟨C, 0, none⟩ = false)
  case atStart => exact ⟨0, by omega, rfl, rfl, World.grownBy.refl _ _, cnt_after ((Below.refl _ _).alloc (Nat.le_refl _) _) hC hCf rfl⟩
  case round =>
    obtain ⟨k, hk, rfl, rfl, hg, hCr, hFr⟩ := hrel
    have hbd := scan_bd x s n true sv k
    obtain ⟨bd1, bd2, bd3, bd4⟩ := hbd
    obtain ⟨hbr, hsz, n0, n1, n2⟩ := in_round hb hg (by simpa using hBC) (by simpa using hEC) (by simp; omega)
    have hDr : wr.cell? ⟨D, 0, none⟩ = some (.bool sv) := by
      rw [hg.cell_far ⟨D, 0, none⟩ (by simp; omega) (by simpa using hDC), World.cell?_alloc_lt _ _ ⟨D, 0, none⟩ hDl]; exact hD
    have HG : Hid ((w.alloc (box n)).grownBy wr (some C)) := hg
    have HK : Hid (k + gk = len) := hk
    have hBr := hbr.hB
    clear hg hk hB hb hC hCf hD
    by_cases hlt : k < len
    · have hen := entry_of_range (hbr.he k hlt)
      obtain ⟨ma, mq⟩ := hm k hlt
      have HM : Hid (∀ j, j < len → Min (x.a j) ∧ Min (x.q j)) := hm
      clear hm
      have h0 : (0 : Int) ≤ (k : Int) := by omega
      have h1 : (k : Int) < (len : Int) := by omega
      obtain ⟨fd, hfd⟩ : ∃ fd, fd = (scan x s n true sv k).1 := ⟨_, rfl⟩
      rw [← hfd] at bd1 bd2 ⊢
      have HF : Hid (fd = (scan x s n true sv k).1) := hfd
      clear hfd
      obtain ⟨c, hcc⟩ : ∃ c, c = (scan x s n true sv k).2 := ⟨_, rfl⟩
      rw [← hcc] at bd3 bd4 hCr
      have HF2 : Hid (c = (scan x s n true sv k).2) := hcc
      clear hcc
      have hst := status_any E (k * 32) (x.a k) (x.q k) (x.f k) n (x.v k) wr hen ma mq hn
      obtain ⟨t, ht⟩ : ∃ t, t = x.st n k := ⟨_, rfl⟩
      have hst2 : Calls Yba.prog 8 #[.pointer (some ⟨E, k * 32, none⟩), tm (n * 60)] wr fun e w' => e = .returned (.int .i64 t) ∧ Below wr.heap.size wr w' := by rw [ht]; exact hst
      have HT : Hid (t = x.st n k) := ht
      have HST := hst2
      clear ht hst hst2
      by_cases hts : t = s
      · subst hts
        go_wp2_with fail
        refine HST.mono ?_
        rintro e w1 ⟨rfl, hb1⟩
        clear HST
        have hbr0 := hbr.grown (grown_of_below none hb1) (by simp) (by simp)
        have hC1 : w1.cell? ⟨C, 0, none⟩ = some (.int .i64 c) := (hb1.cell (p := ⟨C, 0, none⟩) (by simp; omega)).trans hCr
        have hF1 : w1.frozen? ⟨C, 0, none⟩ = false := (hb1.frozen (p := ⟨C, 0, none⟩) (by simp; omega)).trans hFr
        have hD1 : w1.cell? ⟨D, 0, none⟩ = some (.bool sv) := (hb1.cell (p := ⟨D, 0, none⟩) (by simp; omega)).trans hDr
        have hld : Hid (w1.rangeAt E (k * 32) (eCells x k)) := hbr0.he k hlt
        have HSK := skip_ent x k C D c sv w1 hC1 hF1 ⟨bd3, by omega⟩ hD1 hDC
        have HG0 : Hid ((w.alloc (box n)).grownBy w1 (some C)) := grown_trans HG.out (grown_of_below _ hb1)
        clear hen hbr HG hBr n0 n1 n2 hC1 hF1 hD1 hDr hCr hFr
        have hbrH : Hid (Bkt w1 Bk E len x) := hbr0
        clear hbr0
        by_cases hvk : x.v k = sv
        · have hvb : (x.v k == sv) = true := by simpa using hvk
          have HV : Hid (x.v k = sv) := hvk
          clear hvk
          go_wp2_with (first | (refine wpList_load_mid_w (by rfl) 51 (.tmp 37) rfl E (k * 32) rfl (eCells x k) _ hld.out Yba.underlying51 rfl info51 ?_) | (go_at_call 5; refine HSK.mono ?_; rintro e w5 ⟨rfl, hg5, hC5, hF5⟩))
          go_roundg (gk - 1)
          case rel => exact ⟨k + 1, by have := HK.out; omega, by go_num, vint (by rw [scan_skip HT.out.symm rfl HV.out]; exact HF.out), grown_trans HG0.out hg5, by rw [scan_skip HT.out.symm rfl HV.out, ← HF2.out]; exact hC5, hF5⟩
          case measure => have := HK.out; omega
        · have hvb : (x.v k == sv) = false := by simpa using hvk
          have HV : Hid (¬ x.v k = sv) := hvk
          clear hvk
          go_wp2_with (first | (refine wpList_load_mid_w (by rfl) 51 (.tmp 37) rfl E (k * 32) rfl (eCells x k) _ hld.out Yba.underlying51 rfl info51 ?_) | (go_at_call 5; refine HSK.mono ?_; rintro e w5 ⟨rfl, hg5, hC5, hF5⟩))
          have hbr1 := hbrH.out.grown hg5 (by simpa using hBC) (by simpa using hEC)
          have hB1 := hbr1.hB
          have hen1 := entry_of_range (hbr1.he k hlt)
          have HG1 : Hid ((w.alloc (box n)).grownBy w5 (some C)) := grown_trans HG0.out hg5
          clear hg5 hld hbrH HSK hb1 HG0
          by_cases hneg : fd < 0
          · go_wp2_with fail
            go_quiet (fail)
            go_wp2_with fail
            go_roundg (gk - 1)
            case rel => exact ⟨k + 1, by have := HK.out; omega, by go_num, vint (by rw [scan_take HT.out.symm (by intro h; exact HV.out h.2) (Or.inl (by rw [← HF.out]; exact hneg))]), grown_trans HG1.out (grown_of_below _ (below_drewN (Below.refl _ _) nq)), cnt_after (below_drewN (Below.refl _ _) nq) hC5 hF5 (by rw [scan_take HT.out.symm (by intro h; exact HV.out h.2) (Or.inl (by rw [← HF.out]; exact hneg))]; simp only [if_true]; rw [← HF2.out])⟩
            case measure => have := HK.out; omega
          · have hef := entry_of_range (hbr1.he fd.toNat (by omega))
            have f0 : (0 : Int) ≤ fd := by omega
            have f1 : fd < (len : Int) := by omega
            have fz : decide (fd < 0) = false := by simp; omega
            clear hneg
            by_cases hcmp : x.seen k < x.seen fd.toNat
            · have hc6 : x.seen k * 60 < x.seen fd.toNat * 60 := by omega
              have HC : Hid (x.seen k < x.seen fd.toNat) := hcmp
              clear hcmp
              go_wp2_with fail
              have H0 : w5.drew.cell? ⟨Bk, 0, none⟩ = some (.slice (some ⟨E, 0, none⟩) len len) ∧ Entry w5.drew E (k * 32) (x.a k) (x.q k) (x.f k) (x.v k) ∧ Entry w5.drew E (fd.toNat * 32) (x.a fd.toNat) (x.q fd.toNat) (x.f fd.toNat) (x.v fd.toNat) := ⟨hB1, hen1.drew, hef.drew⟩
              have tok1 : True := trivial
              go_region_held3 (fun w' => w'.cell? ⟨Bk, 0, none⟩ = some (.slice (some ⟨E, 0, none⟩) len len) ∧ Entry w' E (k * 32) (x.a k) (x.q k) (x.f k) (x.v k) ∧ Entry w' E (fd.toNat * 32) (x.a fd.toNat) (x.q fd.toNat) (x.f fd.toNat) (x.v fd.toNat)) (first | exact H0 | exact held_step H0 hb2 | exact held_step (held_step H0 hb2) hb3 | exact held_two (held_step (held_step H0 hb2) hb3) _ _)
                (first
                  | (go_at_call 9; have _t := tok1; refine (seen_ent x k E (k * 32) _ (by exact H0.2.1)).mono ?_; rintro e w2 ⟨rfl, hb2⟩; clear tok1 _t)
                  | (go_at_call 9; refine (seen_ent x fd.toNat E (fd.toNat * 32) _ (by exact (held_step H0 hb2).2.2)).mono ?_; rintro e w3 ⟨rfl, hb3⟩)
                  | (go_at_call 10; refine (before_any _ _ _).mono ?_; rintro e w4 ⟨rfl, c1, c2, rfl⟩))
              go_wp2_with fail
              go_roundg (gk - 1)
              case rel => exact ⟨k + 1, by have := HK.out; omega, by go_num, vint (by rw [scan_take HT.out.symm (by intro h; exact HV.out h.2) (Or.inr (by rw [← HF.out]; exact HC.out))]), grown_trans HG1.out (grown_of_below _ (seen_world hb2 hb3 _ _)), cnt_after (seen_world hb2 hb3 _ _) hC5 hF5 (by rw [scan_take HT.out.symm (by intro h; exact HV.out h.2) (Or.inr (by rw [← HF.out]; exact HC.out))]; simp only [if_true]; rw [← HF2.out])⟩
              case measure => have := HK.out; omega
            · have hc6 : ¬ x.seen k * 60 < x.seen fd.toNat * 60 := by omega
              have HC : Hid (¬ x.seen k < x.seen fd.toNat) := hcmp
              clear hcmp
              go_wp2_with fail
              have H0 : w5.drew.cell? ⟨Bk, 0, none⟩ = some (.slice (some ⟨E, 0, none⟩) len len) ∧ Entry w5.drew E (k * 32) (x.a k) (x.q k) (x.f k) (x.v k) ∧ Entry w5.drew E (fd.toNat * 32) (x.a fd.toNat) (x.q fd.toNat) (x.f fd.toNat) (x.v fd.toNat) := ⟨hB1, hen1.drew, hef.drew⟩
              have tok1 : True := trivial
              go_region_held3 (fun w' => w'.cell? ⟨Bk, 0, none⟩ = some (.slice (some ⟨E, 0, none⟩) len len) ∧ Entry w' E (k * 32) (x.a k) (x.q k) (x.f k) (x.v k) ∧ Entry w' E (fd.toNat * 32) (x.a fd.toNat) (x.q fd.toNat) (x.f fd.toNat) (x.v fd.toNat)) (first | exact H0 | exact held_step H0 hb2 | exact held_step (held_step H0 hb2) hb3 | exact held_two (held_step (held_step H0 hb2) hb3) _ _)
                (first
                  | (go_at_call 9; have _t := tok1; refine (seen_ent x k E (k * 32) _ (by exact H0.2.1)).mono ?_; rintro e w2 ⟨rfl, hb2⟩; clear tok1 _t)
                  | (go_at_call 9; refine (seen_ent x fd.toNat E (fd.toNat * 32) _ (by exact (held_step H0 hb2).2.2)).mono ?_; rintro e w3 ⟨rfl, hb3⟩)
                  | (go_at_call 10; refine (before_any _ _ _).mono ?_; rintro e w4 ⟨rfl, c1, c2, rfl⟩))
              go_wp2_with fail
              go_roundg (gk - 1)
              case rel => exact ⟨k + 1, by have := HK.out; omega, by go_num, vint (by rw [scan_keep HT.out.symm (by intro h; exact HV.out h.2) (by rw [← HF.out]; intro h; have := HC.out; omega)]; exact HF.out), grown_trans HG1.out (grown_of_below _ (seen_world hb2 hb3 _ _)), cnt_after (seen_world hb2 hb3 _ _) hC5 hF5 (by rw [scan_keep HT.out.symm (by intro h; exact HV.out h.2) (by rw [← HF.out]; intro h; have := HC.out; omega)]; simp only [if_true]; rw [← HF2.out])⟩
              case measure => have := HK.out; omega
      · have hts' : (t != s) = true := by simpa using hts
        have HN : Hid (¬ t = s) := hts
        clear hts
        go_wp2_with fail
        refine HST.mono ?_
        rintro e w1 ⟨rfl, hb1⟩
        clear HST
        go_wp2_with fail
        go_roundg (gk - 1)
        case rel => exact ⟨k + 1, by have := HK.out; omega, by go_num, vint (by rw [scan_ne (by rw [← HT.out]; exact HN.out)]; exact HF.out), grown_trans HG.out (grown_of_below _ hb1), cnt_after hb1 hCr hFr (by rw [scan_ne (by rw [← HT.out]; exact HN.out)]; exact HF2.out.symm)⟩
        case measure => have := HK.out; omega
    · have hkl : k = len := by have := HK.out; omega
      subst hkl
      go_wp2_with fail
      go_ret
      exact ⟨rfl, grown_trans (World.grownBy_alloc w (box n) _) HG.out, hCr⟩

end Go.Proofs.Ybulkagls
