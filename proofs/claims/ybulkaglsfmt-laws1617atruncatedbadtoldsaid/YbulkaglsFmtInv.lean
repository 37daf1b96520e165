/-
  THE SCANNER INSIDE THE CONTAINER: its phases, and what each call of next makes of them.
-/
import Derived.Test.YbulkaglsFmtNkey
import Derived.Test.YbulkaglsFmtOpen
import Derived.Test.YbulkaglsFmtCont
namespace Go.Proofs.YbulkaglsFmt
open Go.RowKit Go.Lib

/-- What holds of the Scanner throughout. -/
structure Core (w0 : World) (base S Dt n cap : Nat) (dict : Bool) (p it d kl : Nat) (f : Nat → Value) (w : World) : Prop where
  sc : SC w S f
  up : UpF base S w0 w
  hb : base ≤ w.heap.size
  lv : Live f Dt n cap p it d
  f9 : f 9 = .bool false
  f15 : f 15 = .bool dict
  f17 : f 17 = .bool false
  f18 : f 18 = .int .i32 ((0 : Nat) : Int)
  kn : f 235 = .int .i64 kl
  far : FarOK w base f kl

/-- The fixed facts. -/
structure Fix (w0 : World) (base S Dt n cap : Nat) : Prop where
  SD : Dt ≠ S
  n1 : n ≤ 100000
  nc : n ≤ cap
  Sb : S < base
  Db : Dt < base

theorem Core.cell {w0 w : World} {base S Dt n cap p it d kl : Nat} {dict : Bool} {f : Nat → Value} (c : Core w0 base S Dt n cap dict p it d kl f w) (F : Fix w0 base S Dt n cap) {o : Nat} {v : Value} (h : w0.cell? ⟨Dt, o, none⟩ = some v) : w.cell? ⟨Dt, o, none⟩ = some v := by
  rw [World.cell?_of_block (c.up.block Dt F.Db F.SD)]
  exact h

/-- A step that changes the Scanner alone. -/
theorem Core.go {w0 w w' : World} {base S Dt n cap p it d kl p' it' d' : Nat} {dict : Bool} {f g : Nat → Value} (c : Core w0 base S Dt n cap dict p it d kl f w) (U : Up w S w' g) (lv : Live g Dt n cap p' it' d') (e9 : g 9 = f 9) (e15 : g 15 = f 15) (e17 : g 17 = f 17) (e18 : g 18 = f 18) (e234 : g 234 = f 234) (e235 : g 235 = f 235) :
    Core w0 base S Dt n cap dict p' it' d' kl g w' :=
  ⟨U.sc, c.up.trans (UpF.of U.gr c.hb), Nat.le_trans c.hb U.gr.size, lv, e9.trans c.f9, e15.trans c.f15, e17.trans c.f17, e18.trans c.f18, e235.trans c.kn, c.far.up c.sc U.gr e234⟩

def pos (dict : Bool) (x : Nat → Int) (i : Nat) : Nat := 1 + (contTo dict x i).length
def vpos (dict : Bool) (x : Nat → Int) (i : Nat) : Nat := pos dict x i + (if dict = true then 4 else 0)

/-- An item starts. -/
structure PA (w0 : World) (base S Dt n cap : Nat) (dict : Bool) (x : Nat → Int) (i it : Nat) (f : Nat → Value) (w : World) : Prop where
  c : Core w0 base S Dt n cap dict (pos dict x i) it 2 (if dict = true then i else 0) f w
  k : dict = true → f 16 = .bool true ∧ (i = 0 → f 19 = .int .i32 (-1)) ∧ ∀ j, i = j + 1 → f 19 = .int .i32 ((pos dict x j : Int) + 2) ∧ f 20 = .int .i32 ((pos dict x j : Int) + 4)

/-- A value starts. -/
structure PV (w0 : World) (base S Dt n cap : Nat) (dict : Bool) (x : Nat → Int) (i it : Nat) (f : Nat → Value) (w : World) : Prop where
  c : Core w0 base S Dt n cap dict (vpos dict x i) it 2 (if dict = true then i + 1 else 0) f w
  k : dict = true → f 16 = .bool false ∧ f 19 = .int .i32 ((pos dict x i : Int) + 2) ∧ f 20 = .int .i32 ((pos dict x i : Int) + 4)

/-- Inside the empty list or dictionary that is the value. -/
structure PC (w0 : World) (base S Dt n cap : Nat) (dict : Bool) (x : Nat → Int) (i it : Nat) (nd : Bool) (f : Nat → Value) (w : World) : Prop where
  c : Core w0 base S Dt n cap dict (vpos dict x i + 1) it 3 (if dict = true then i + 1 else 0) f w
  k : dict = true → f 19 = .int .i32 ((pos dict x i : Int) + 2) ∧ f 20 = .int .i32 ((pos dict x i : Int) + 4)
  f21 : f 21 = .bool nd
  f22 : f 22 = .bool nd
  f23 : f 23 = .bool false
  f24 : f 24 = .int .i32 (((if dict = true then i + 1 else 0 : Nat)) : Int)

theorem pos_succ (dict : Bool) (x : Nat → Int) (i : Nat) : pos dict x (i + 1) = vpos dict x i + (valBytes (x i)).length := by
  cases dict
  · simp [pos, vpos, contTo_false]; omega
  · simp [pos, vpos, contTo_true]; omega

/-- A value behind which the Scanner stands at the next item. -/
theorem pa_of_valued {w0 w w' : World} {base S Dt n cap i it it' q d0 : Nat} {dict : Bool} {x : Nat → Int} {f g : Nat → Value} {kl : Nat} (hkl : kl = if dict = true then i + 1 else 0) (c : Core w0 base S Dt n cap dict q it d0 kl f w)
    (k : dict = true → f 19 = .int .i32 ((pos dict x i : Int) + 2) ∧ f 20 = .int .i32 ((pos dict x i : Int) + 4))
    (U : Up w S w' (valued g 1 dict)) (lv : Live g Dt n cap (pos dict x (i + 1)) it' 2) (e9 : g 9 = f 9) (e15 : g 15 = f 15) (e17 : g 17 = f 17) (e18 : g 18 = f 18) (e19 : g 19 = f 19) (e20 : g 20 = f 20) (e234 : g 234 = f 234) (e235 : g 235 = f 235) :
    ∃ h, PA w0 base S Dt n cap dict x (i + 1) it' h w' := by
  subst hkl
  cases dict with
  | false =>
    refine ⟨g, ⟨?_, fun h => by cases h⟩⟩
    exact c.go U lv e9 e15 e17 e18 e234 e235
  | true =>
    refine ⟨upd g 16 (.bool true), ⟨?_, fun _ => ⟨rfl, fun h => absurd h (by omega), fun j hj => ?_⟩⟩⟩
    · exact c.go U ⟨lv.h0, lv.h1, lv.h2, lv.h6, lv.h7, lv.h8, lv.hd⟩ e9 e15 e17 e18 e234 e235
    · have hj' : j = i := by omega
      subst hj'
      exact ⟨e19.trans (k rfl).1, e20.trans (k rfl).2⟩

/-- What a call of next (function 13) leaves. -/
def Stepped (S : Nat) (w : World) (K : Int) (Ph : (Nat → Value) → World → Prop) : Prop :=
  Calls Ybaf.prog 13 #[.pointer (some ⟨S, 0, none⟩)] w fun e w' => e = .returned (.int .i64 K) ∧ ∃ g, Ph g w'

section steps
variable {w0 w : World} {base S Dt n cap i it : Nat} {dict : Bool} {x : Nat → Int} {f : Nat → Value}

theorem step_int (F : Fix w0 base S Dt n cap) (h : PV w0 base S Dt n cap dict x i it f w) (hit : 1 ≤ it) (hit' : it ≤ 100000) (h4 : x i % 4 = 0) (hp : vpos dict x i + 2 < n)
    (b0 : w0.cell? ⟨Dt, vpos dict x i, none⟩ = some (.int .u8 105)) (b1 : w0.cell? ⟨Dt, vpos dict x i + 1, none⟩ = some (.int .u8 (48 + x i / 4 % 10))) (b2 : w0.cell? ⟨Dt, vpos dict x i + 2, none⟩ = some (.int .u8 101)) :
    Stepped S w 2 (PA w0 base S Dt n cap dict x (i + 1) (it + 1)) := by
  have hps : pos dict x (i + 1) = vpos dict x i + 3 := by rw [pos_succ]; simp [valBytes, h4]
  refine (next_int S Dt n cap (vpos dict x i) it 1 dict f w h.c.sc h.c.lv F.SD F.n1 F.nc hit hit' (by decide) h.c.f15 (fun e => (h.k e).1) (48 + x i / 4 % 10) hp (h.c.cell F b0) (h.c.cell F b1) (by omega) (by omega) (h.c.cell F b2)).mono ?_
  rintro e w' ⟨he, U⟩
  refine ⟨he, pa_of_valued rfl h.c (fun e => (h.k e).2) U ⟨h.c.lv.h0, ?_, h.c.lv.h2, h.c.lv.h6, rfl, h.c.lv.h8, h.c.lv.hd⟩ rfl rfl rfl rfl rfl rfl rfl rfl⟩
  rw [hps]; rfl

theorem step_str (F : Fix w0 base S Dt n cap) (h : PV w0 base S Dt n cap dict x i it f w) (hit : 1 ≤ it) (hit' : it ≤ 100000) (h4 : x i % 4 = 1) (hp : vpos dict x i + 3 ≤ n)
    (b0 : w0.cell? ⟨Dt, vpos dict x i, none⟩ = some (.int .u8 49)) (b1 : w0.cell? ⟨Dt, vpos dict x i + 1, none⟩ = some (.int .u8 58)) :
    Stepped S w 1 (PA w0 base S Dt n cap dict x (i + 1) (it + 1)) := by
  have hps : pos dict x (i + 1) = vpos dict x i + 2 + 1 := by rw [pos_succ]; simp [valBytes, h4]
  refine (next_str S Dt n cap (vpos dict x i) it 1 dict f w h.c.sc h.c.lv F.SD F.n1 F.nc hit hit' (by decide) h.c.f15 (fun e => (h.k e).1) 1 (by decide) (by decide) (by omega) (h.c.cell F b0) (h.c.cell F b1)).mono ?_
  rintro e w' ⟨he, U⟩
  refine ⟨he, pa_of_valued rfl h.c (fun e => (h.k e).2) U ⟨h.c.lv.h0, ?_, h.c.lv.h2, h.c.lv.h6, rfl, h.c.lv.h8, h.c.lv.hd⟩ rfl rfl rfl rfl rfl rfl rfl rfl⟩
  rw [hps]; rfl

theorem step_open_108 (F : Fix w0 base S Dt n cap) (h : PV w0 base S Dt n cap dict x i it f w) (hit : 1 ≤ it) (hit' : it ≤ 100000) (hi : i ≤ 10000) (hp : vpos dict x i < n) (b0 : w0.cell? ⟨Dt, vpos dict x i, none⟩ = some (.int .u8 108)) :
    Stepped S w 3 (PC w0 base S Dt n cap dict x i (it + 1) false) := by
  cases dict with
  | false =>
    refine (next_open_1_false_108 S Dt n cap (vpos false x i) it f w h.c.sc h.c.lv F.SD F.n1 hit hit' h.c.f15 hp (h.c.cell F b0) 0 h.c.kn (by omega) (by omega)).mono ?_
    rintro e w' ⟨he, U⟩
    exact ⟨he, _, ⟨h.c.go U ⟨h.c.lv.h0, rfl, h.c.lv.h2, h.c.lv.h6, rfl, h.c.lv.h8, rfl⟩ rfl rfl rfl rfl rfl rfl, (fun e => by cases e), rfl, rfl, rfl, rfl⟩⟩
  | true =>
    refine (next_open_1_true_108 S Dt n cap (vpos true x i) it f w h.c.sc h.c.lv F.SD F.n1 hit hit' h.c.f15 (h.k rfl).1 hp (h.c.cell F b0) ((i + 1 : Nat) : Int) h.c.kn (by omega) (by omega)).mono ?_
    rintro e w' ⟨he, U⟩
    exact ⟨he, _, ⟨h.c.go U ⟨h.c.lv.h0, rfl, h.c.lv.h2, h.c.lv.h6, rfl, h.c.lv.h8, rfl⟩ rfl rfl rfl rfl rfl rfl, fun _ => ⟨(h.k rfl).2.1, (h.k rfl).2.2⟩, rfl, rfl, rfl, rfl⟩⟩

theorem step_open_100 (F : Fix w0 base S Dt n cap) (h : PV w0 base S Dt n cap dict x i it f w) (hit : 1 ≤ it) (hit' : it ≤ 100000) (hi : i ≤ 10000) (hp : vpos dict x i < n) (b0 : w0.cell? ⟨Dt, vpos dict x i, none⟩ = some (.int .u8 100)) :
    Stepped S w 4 (PC w0 base S Dt n cap dict x i (it + 1) true) := by
  cases dict with
  | false =>
    refine (next_open_1_false_100 S Dt n cap (vpos false x i) it f w h.c.sc h.c.lv F.SD F.n1 hit hit' h.c.f15 hp (h.c.cell F b0) 0 h.c.kn (by omega) (by omega)).mono ?_
    rintro e w' ⟨he, U⟩
    exact ⟨he, _, ⟨h.c.go U ⟨h.c.lv.h0, rfl, h.c.lv.h2, h.c.lv.h6, rfl, h.c.lv.h8, rfl⟩ rfl rfl rfl rfl rfl rfl, (fun e => by cases e), rfl, rfl, rfl, rfl⟩⟩
  | true =>
    refine (next_open_1_true_100 S Dt n cap (vpos true x i) it f w h.c.sc h.c.lv F.SD F.n1 hit hit' h.c.f15 (h.k rfl).1 hp (h.c.cell F b0) ((i + 1 : Nat) : Int) h.c.kn (by omega) (by omega)).mono ?_
    rintro e w' ⟨he, U⟩
    exact ⟨he, _, ⟨h.c.go U ⟨h.c.lv.h0, rfl, h.c.lv.h2, h.c.lv.h6, rfl, h.c.lv.h8, rfl⟩ rfl rfl rfl rfl rfl rfl, fun _ => ⟨(h.k rfl).2.1, (h.k rfl).2.2⟩, rfl, rfl, rfl, rfl⟩⟩

theorem step_endl (F : Fix w0 base S Dt n cap) (h : PC w0 base S Dt n cap dict x i it false f w) (hit : 1 ≤ it) (hit' : it ≤ 100000) (h4 : x i % 4 = 2) (hp : vpos dict x i + 1 < n) (b0 : w0.cell? ⟨Dt, vpos dict x i + 1, none⟩ = some (.int .u8 101)) :
    Stepped S w 5 (PA w0 base S Dt n cap dict x (i + 1) (it + 1)) := by
  have hps : pos dict x (i + 1) = vpos dict x i + 1 + 1 := by rw [pos_succ]; simp [valBytes, h4]
  refine (next_end1 S Dt n cap (vpos dict x i + 1) it 1 dict f w h.c.sc h.c.lv F.SD F.n1 hit hit' (by decide) h.f21 h.c.f15 hp (h.c.cell F b0)).mono ?_
  rintro e w' ⟨he, U⟩
  refine ⟨he, pa_of_valued rfl h.c h.k U ⟨h.c.lv.h0, ?_, h.c.lv.h2, h.c.lv.h6, rfl, h.c.lv.h8, rfl⟩ rfl rfl rfl rfl rfl rfl rfl rfl⟩
  rw [hps]; rfl

theorem step_endd (F : Fix w0 base S Dt n cap) (h : PC w0 base S Dt n cap dict x i it true f w) (hit : 1 ≤ it) (hit' : it ≤ 100000) (hi : i ≤ 10000) (h4 : x i % 4 = 3) (hp : vpos dict x i + 1 < n) (b0 : w0.cell? ⟨Dt, vpos dict x i + 1, none⟩ = some (.int .u8 101)) :
    Stepped S w 5 (PA w0 base S Dt n cap dict x (i + 1) (it + 1)) := by
  have hps : pos dict x (i + 1) = vpos dict x i + 1 + 1 := by rw [pos_succ]; simp [valBytes, h4]
  have hn := F.n1
  have hkl : (if dict = true then i + 1 else 0) ≤ 100000 := by split <;> omega
  refine (next_key_2 S Dt n cap (vpos dict x i + 1) it 101 f w (fun K w' => K = 5 ∧ ∃ g, PA w0 base S Dt n cap dict x (i + 1) (it + 1) g w') h.c.sc h.c.lv F.SD F.n1 hit hit' h.f21 h.f22 hp (h.c.cell F b0) ?_).mono ?_
  · intro w1 U1
    cases dict with
    | false =>
      refine (key_end_2_false S (vpos false x i + 1) 0 _ w1 U1.sc h.c.lv.h1 (by omega) h.f23 h.f24 (by omega) h.c.lv.hd h.c.f15).mono ?_
      rintro e w' ⟨he, U⟩
      refine ⟨5, he, rfl, pa_of_valued rfl h.c h.k (up_trans U1 U) ⟨h.c.lv.h0, ?_, h.c.lv.h2, h.c.lv.h6, rfl, h.c.lv.h8, rfl⟩ rfl rfl rfl rfl rfl rfl rfl h.c.kn.symm⟩
      rw [hps]; rfl
    | true =>
      refine (key_end_2_true S (vpos true x i + 1) (i + 1) _ w1 U1.sc h.c.lv.h1 (by omega) h.f23 h.f24 (by omega) h.c.lv.hd h.c.f15).mono ?_
      rintro e w' ⟨he, U⟩
      refine ⟨5, he, rfl, pa_of_valued rfl h.c h.k (up_trans U1 U) ⟨h.c.lv.h0, ?_, h.c.lv.h2, h.c.lv.h6, rfl, h.c.lv.h8, rfl⟩ rfl rfl rfl rfl rfl rfl rfl h.c.kn.symm⟩
      rw [hps]; rfl
  · rintro e w' ⟨K, he, rfl, hP⟩
    exact ⟨he, hP⟩

/-- What key leaves, as the phase of the value. -/
theorem pv_of_key {w1 w' : World} {e : Ending} (h : PA w0 base S Dt n cap true x i it f w) (U1 : Up w S w1 (upd f 7 (.int .i64 ((it : Int) + 1)))) (hK : KeyPost w1 S Dt cap (pos true x i) i base (upd f 7 (.int .i64 ((it : Int) + 1))) e w') :
    e = .returned (.int .i64 1) ∧ ∃ g, PV w0 base S Dt n cap true x i (it + 1) g w' := by
  obtain ⟨he, f2, S2, k2, e2, F2, U2⟩ := hK
  have L := h.c.lv
  have g : ∀ j, j < 202 → j ≠ 16 → j ≠ 19 → j ≠ 20 → upd (upd (upd f2 19 (.int .i32 ((pos true x i : Int) + 2))) 20 (.int .i32 ((pos true x i : Int) + 4))) 16 (.bool false) j = keyRead (upd f 7 (.int .i64 ((it : Int) + 1))) Dt cap (pos true x i) j := fun j hj a b c => by
    rw [upd_other _ _ _ _ a, upd_other _ _ _ _ c, upd_other _ _ _ _ b]
    exact e2 j hj
  refine ⟨he, _, ⟨⟨S2, (h.c.up.trans (UpF.of U1.gr h.c.hb)).trans U2, Nat.le_trans (Nat.le_trans h.c.hb U1.gr.size) U2.size, ⟨?_, ?_, ?_, ?_, ?_, ?_, ?_⟩, ?_, ?_, ?_, ?_, k2, ?_⟩, fun _ => ⟨rfl, rfl, rfl⟩⟩⟩
  · rw [g 0 (by decide) (by decide) (by decide) (by decide)]; exact L.h0
  · rw [g 1 (by decide) (by decide) (by decide) (by decide)]; rfl
  · rw [g 2 (by decide) (by decide) (by decide) (by decide)]; exact L.h2
  · rw [g 6 (by decide) (by decide) (by decide) (by decide)]; exact L.h6
  · rw [g 7 (by decide) (by decide) (by decide) (by decide)]; rfl
  · rw [g 8 (by decide) (by decide) (by decide) (by decide)]; exact L.h8
  · rw [g 201 (by decide) (by decide) (by decide) (by decide)]; exact L.hd
  · rw [g 9 (by decide) (by decide) (by decide) (by decide)]; exact h.c.f9
  · rw [g 15 (by decide) (by decide) (by decide) (by decide)]; exact h.c.f15
  · rw [g 17 (by decide) (by decide) (by decide) (by decide)]; exact h.c.f17
  · rw [g 18 (by decide) (by decide) (by decide) (by decide)]; exact h.c.f18
  · exact F2

theorem step_key (F : Fix w0 base S Dt n cap) (h : PA w0 base S Dt n cap true x i it f w) (hit : 1 ≤ it) (hit' : it ≤ 100000) (hi : i < 600) (hp : pos true x i + 4 ≤ n)
    (B : ∀ j, j ≤ i → w0.cell? ⟨Dt, pos true x j, none⟩ = some (.int .u8 50) ∧ w0.cell? ⟨Dt, pos true x j + 1, none⟩ = some (.int .u8 58) ∧ w0.cell? ⟨Dt, pos true x j + 2, none⟩ = some (.int .u8 (97 + (j : Int) / 26)) ∧ w0.cell? ⟨Dt, pos true x j + 3, none⟩ = some (.int .u8 (97 + (j : Int) % 26))) (hmono : ∀ j, j + 1 = i → pos true x j + 4 ≤ pos true x i) :
    Stepped S w 1 (PV w0 base S Dt n cap true x i (it + 1)) := by
  obtain ⟨b0, b1, b2, b3⟩ := B i (Nat.le_refl _)
  obtain ⟨k16, kz, ks⟩ := h.k rfl
  refine (next_key_1 S Dt n cap (pos true x i) it 50 f w (fun K w' => K = 1 ∧ ∃ g, PV w0 base S Dt n cap true x i (it + 1) g w') h.c.sc h.c.lv F.SD F.n1 hit hit' h.c.f15 k16 (by omega) (h.c.cell F b0) ?_).mono ?_
  · intro w1 U1
    have hb1 : base ≤ w1.heap.size := Nat.le_trans h.c.hb U1.gr.size
    have far1 : FarOK w1 base (upd f 7 (.int .i64 ((it : Int) + 1))) i := h.c.far.up h.c.sc U1.gr rfl
    have cell1 : ∀ {o : Nat} {v : Value}, w0.cell? ⟨Dt, o, none⟩ = some v → w1.cell? ⟨Dt, o, none⟩ = some v := fun hc => far_cell U1.gr (h.c.cell F hc) F.SD
    cases i with
    | zero =>
      refine (key_first S Dt n cap (pos true x 0) 0 base _ w1 U1.sc h.c.lv.h0 h.c.lv.h1 F.SD F.n1 F.nc hp (cell1 b0) (cell1 b1) h.c.kn (by omega) far1 hb1 F.Sb (kz rfl)).mono fun e w' hK => ?_
      obtain ⟨he, hP⟩ := pv_of_key h U1 hK
      exact ⟨1, he, rfl, hP⟩
    | succ j =>
      obtain ⟨_, _, m2, m3⟩ := B j (by omega)
      obtain ⟨k19, k20⟩ := ks j rfl
      have hm := hmono j rfl
      refine (key_more S Dt n cap (pos true x (j + 1)) (j + 1) base (pos true x j + 2) (97 + ((j + 1 : Nat) : Int) / 26) (97 + ((j + 1 : Nat) : Int) % 26) (97 + (j : Int) / 26) (97 + (j : Int) % 26) _ w1 U1.sc h.c.lv.h0 h.c.lv.h1 F.SD F.n1 F.nc hp (cell1 b0) (cell1 b1) h.c.kn (by omega) far1 hb1 F.Sb
        (k19.trans (vint (by omega))) (k20.trans (vint (by omega))) (by omega) (cell1 m2) (cell1 m3) (cell1 b2) (cell1 b3) (by omega) (by omega) (by omega) (by omega) (by omega) F.Db).mono fun e w' hK => ?_
      obtain ⟨he, hP⟩ := pv_of_key h U1 hK
      exact ⟨1, he, rfl, hP⟩
  · rintro e w' ⟨K, he, rfl, hP⟩
    exact ⟨he, hP⟩

/-- The container has ended. -/
structure PF (w0 : World) (base S Dt n cap p it : Nat) (f : Nat → Value) (w : World) : Prop where
  sc : SC w S f
  up : UpF base S w0 w
  hb : base ≤ w.heap.size
  lv : Live f Dt n cap p it 1
  f9 : f 9 = .bool false

theorem step_fin (F : Fix w0 base S Dt n cap) (h : PA w0 base S Dt n cap dict x i it f w) (hit : 1 ≤ it) (hit' : it ≤ 100000) (hp : pos dict x i < n) (b0 : w0.cell? ⟨Dt, pos dict x i, none⟩ = some (.int .u8 101)) :
    Stepped S w 5 (PF w0 base S Dt n cap (pos dict x i + 1) (it + 1)) := by
  have hn := F.n1
  cases dict with
  | false =>
    refine (next_end1 S Dt n cap (pos false x i) it 0 false f w h.c.sc h.c.lv F.SD F.n1 hit hit' (by decide) h.c.f15 h.c.f9 hp (h.c.cell F b0)).mono ?_
    rintro e w' ⟨he, U⟩
    exact ⟨he, _, ⟨U.sc, h.c.up.trans (UpF.of U.gr h.c.hb), Nat.le_trans h.c.hb U.gr.size, ⟨h.c.lv.h0, rfl, h.c.lv.h2, h.c.lv.h6, rfl, h.c.lv.h8, rfl⟩, h.c.f9⟩⟩
  | true =>
    refine (next_key_1 S Dt n cap (pos true x i) it 101 f w (fun K w' => K = 5 ∧ ∃ g, PF w0 base S Dt n cap (pos true x i + 1) (it + 1) g w') h.c.sc h.c.lv F.SD F.n1 hit hit' h.c.f15 (h.k rfl).1 hp (h.c.cell F b0) ?_).mono ?_
    · intro w1 U1
      refine (key_end_1_false S (pos true x i) 0 _ w1 U1.sc h.c.lv.h1 (by omega) h.c.f17 h.c.f18 (by omega) h.c.lv.hd h.c.f9).mono ?_
      rintro e w' ⟨he, U⟩
      have U2 := up_trans U1 U
      exact ⟨5, he, rfl, _, ⟨U2.sc, h.c.up.trans (UpF.of U2.gr h.c.hb), Nat.le_trans h.c.hb U2.gr.size, ⟨h.c.lv.h0, rfl, h.c.lv.h2, h.c.lv.h6, rfl, h.c.lv.h8, rfl⟩, h.c.f9⟩⟩
    · rintro e w' ⟨K, he, rfl, hP⟩
      exact ⟨he, hP⟩

end steps

end Go.Proofs.YbulkaglsFmt
