/-
  WALKS: bytes.Compare of two keys, (*Scanner).key.
-/
import Derived.Test.YbulkaglsFmtPush
import Derived.Lib.BytesEntry
namespace Go.Proofs.YbulkaglsFmt
open Go.RowKit Go.Lib

theorem cmp8 (p0 p1 q0 q1 : UInt8) (h : q0 < p0 ∨ (q0 = p0 ∧ q1 < p1)) :
    Extern.BytealgCompare.cmp ((ByteArray.empty.push p0).push p1) ((ByteArray.empty.push q0).push q1) = 1 := by
  have s1 : ∀ a b : UInt8, ((ByteArray.empty.push a).push b).size = 2 := fun _ _ => rfl
  have g0 : ∀ a b : UInt8, ((ByteArray.empty.push a).push b)[0]! = a := fun _ _ => rfl
  have g1 : ∀ a b : UInt8, ((ByteArray.empty.push a).push b)[1]! = b := fun _ _ => rfl
  unfold Extern.BytealgCompare.cmp
  rw [s1, s1, show List.range (min 2 2) = [0, 1] from rfl]
  rcases h with h | ⟨rfl, h⟩
  · have hne : (p0 != q0) = true := by
      rw [bne_iff_ne]; intro hc; subst hc; exact absurd h (UInt8.lt_irrefl _)
    have hlt : ¬ p0 < q0 := by rw [UInt8.lt_iff_toNat_lt] at h ⊢; omega
    rw [show List.find? (fun i => ((ByteArray.empty.push p0).push p1)[i]! != ((ByteArray.empty.push q0).push q1)[i]!) [0, 1] = some 0 by simp only [List.find?, g0, hne]]
    show (if ((ByteArray.empty.push p0).push p1)[0]! < ((ByteArray.empty.push q0).push q1)[0]! then (-1 : Int) else 1) = 1
    rw [g0, g0, if_neg hlt]
  · have hne : (p1 != q1) = true := by
      rw [bne_iff_ne]; intro hc; subst hc; exact absurd h (UInt8.lt_irrefl _)
    have hlt : ¬ p1 < q1 := by rw [UInt8.lt_iff_toNat_lt] at h ⊢; omega
    rw [show List.find? (fun i => ((ByteArray.empty.push q0).push p1)[i]! != ((ByteArray.empty.push q0).push q1)[i]!) [0, 1] = some 1 by simp only [List.find?, g0, g1, hne, bne_self_eq_false]]
    show (if ((ByteArray.empty.push q0).push p1)[1]! < ((ByteArray.empty.push q0).push q1)[1]! then (-1 : Int) else 1) = 1
    rw [g1, g1, if_neg hlt]

theorem byte_nat {x : Int} (h : 0 ≤ x ∧ x ≤ 255) : (x.toNat.toUInt8).toNat = x.toNat := by
  rw [Nat.toUInt8_eq, UInt8.toNat_ofNat']; omega

theorem cmp_two {a0 a1 b0 b1 : Int} (ha0 : 0 ≤ a0 ∧ a0 ≤ 255) (ha1 : 0 ≤ a1 ∧ a1 ≤ 255) (hb0 : 0 ≤ b0 ∧ b0 ≤ 255) (hb1 : 0 ≤ b1 ∧ b1 ≤ 255) (h : b0 < a0 ∨ (b0 = a0 ∧ b1 < a1)) :
    Extern.BytealgCompare.cmp ((ByteArray.empty.push a0.toNat.toUInt8).push a1.toNat.toUInt8) ((ByteArray.empty.push b0.toNat.toUInt8).push b1.toNat.toUInt8) = 1 := by
  refine cmp8 _ _ _ _ ?_
  rcases h with h | ⟨rfl, h⟩
  · left; rw [UInt8.lt_iff_toNat_lt, byte_nat hb0, byte_nat ha0]; omega
  · right; exact ⟨rfl, by rw [UInt8.lt_iff_toNat_lt, byte_nat hb1, byte_nat ha1]; omega⟩

theorem run_bytesOf_two {P : Program} {w : World} {Dt o c : Nat} {a0 a1 : Int} (k0 : w.cell? ⟨Dt, o, none⟩ = some (.int .u8 a0)) (k1 : w.cell? ⟨Dt, o + 1, none⟩ = some (.int .u8 a1)) :
    (Extern.Bytes.bytesOf (.slice (some ⟨Dt, o, none⟩) 2 c)).run P w = .ok ((ByteArray.empty.push a0.toNat.toUInt8).push a1.toNat.toUInt8) w := by
  have l0 := run_loadBytesX (P := P) w [a0, a1] ⟨Dt, o, none⟩ .empty (by
    intro j x hj
    match j, hj with
    | 0, hj => cases hj; exact k0
    | 1, hj => cases hj; exact k1)
  exact l0

set_option maxRecDepth 100000 in
set_option maxHeartbeats 1000000 in
theorem compare_two (Dt o1 o2 c1 c2 : Nat) (a0 a1 b0 b1 : Int) (w : World) (k0 : w.cell? ⟨Dt, o1, none⟩ = some (.int .u8 a0)) (k1 : w.cell? ⟨Dt, o1 + 1, none⟩ = some (.int .u8 a1)) (m0 : w.cell? ⟨Dt, o2, none⟩ = some (.int .u8 b0)) (m1 : w.cell? ⟨Dt, o2 + 1, none⟩ = some (.int .u8 b1))
    (ha0 : 0 ≤ a0 ∧ a0 ≤ 255) (ha1 : 0 ≤ a1 ∧ a1 ≤ 255) (hb0 : 0 ≤ b0 ∧ b0 ≤ 255) (hb1 : 0 ≤ b1 ∧ b1 ≤ 255) (h : b0 < a0 ∨ (b0 = a0 ∧ b1 < a1)) :
    Calls Ybaf.prog 23 #[.slice (some ⟨Dt, o1, none⟩) 2 c1, .slice (some ⟨Dt, o2, none⟩) 2 c2] w fun e w' => e = .returned (.int .i64 1) ∧ w' = w := by
  have hrun : (Extern.BytealgCompare.compare #[.slice (some ⟨Dt, o1, none⟩) 2 c1, .slice (some ⟨Dt, o2, none⟩) 2 c2]).run Ybaf.prog w = .ok (.int .i64 1) w := by
    have r1 := run_bytesOf_two (P := Ybaf.prog) (c := c1) k0 k1
    have r2 := run_bytesOf_two (P := Ybaf.prog) (c := c2) m0 m1
    show ((Extern.Bytes.bytesOf (.slice (some ⟨Dt, o1, none⟩) 2 c1)) >>= fun x => (Extern.Bytes.bytesOf (.slice (some ⟨Dt, o2, none⟩) 2 c2)) >>= fun y => pure (Value.int .i64 (Extern.BytealgCompare.cmp x y))).run Ybaf.prog w = _
    simp only [Sem.run_bind, r1, r2, Result.andThen_ok, Sem.run_pure, cmp_two ha0 ha1 hb0 hb1 h]
  go_enter Ybaf.func23, Ybaf.ntmps23
  go_wp2
  rw [run_callFunc_extern Ybaf.func30 (by kernel_rfl) (by kernel_rfl) (by kernel_rfl) (e := Extern.BytealgCompare.compare) (by kernel_rfl), hrun]
  simp only [Result.andThen]
  rw [Oper.upon_value]
  go_wp2
  go_ret
  exact ⟨rfl, rfl⟩

/-- Where the keys beyond the first 32 stand. -/
def FarOK (w : World) (base : Nat) (f : Nat → Value) (kl : Nat) : Prop :=
  (kl ≤ 32 ∧ f 234 = .slice none 0 0) ∨ ∃ g c ys, 32 < kl ∧ f 234 = .slice (some ⟨g, 0, none⟩) (kl - 32) c ∧ w.ownsRow base 21 1 (.slice (some ⟨g, 0, none⟩) (kl - 32) c) (kl - 32) ys

theorem own_cap' {w : World} {base g n cap : Nat} {e : TypeId} {xs : List Value} (h : w.ownsRow base e 1 (.slice (some ⟨g, 0, none⟩) n cap) n xs) : n ≤ cap := by
  rcases h.2 with ⟨h', _⟩ | ⟨g', cap', cur, h', _, _, hn, _⟩
  · simp at h'
  · simp only [Value.slice.injEq] at h'
    obtain ⟨_, _, rfl⟩ := h'
    exact hn

theorem FarOK.up {w w' : World} {base S kl : Nat} {f g0 : Nat → Value} {f' : Nat → Value} (h : FarOK w base f kl) (hS : SC w S g0) (hg : w.grownBy w' (some S)) (he : f' 234 = f 234) : FarOK w' base f' kl := by
  rcases h with ⟨h1, h2⟩ | ⟨g, c, ys, h1, h2, h3⟩
  · exact Or.inl ⟨h1, he.trans h2⟩
  · refine Or.inr ⟨g, c, ys, h1, he.trans h2, h3.kept hg (Or.inr ?_)⟩
    exact (row_ne hS h3 (by decide)).symm

theorem push_any (S kl start base : Nat) (f : Nat → Value) (w : World) (hS : SC w S f) (hk : f 235 = .int .i64 kl) (hk2 : kl ≤ 1000) (hs : start ≤ 100000) (hf : FarOK w base f kl) (hb : base ≤ w.heap.size) (hSb : S < base) :
    Calls Ybaf.prog 22 #[.pointer (some ⟨S, 202, none⟩), .int .i64 start] w fun e w' => e = .returned (.tuple #[]) ∧ ∃ f1, SC w' S f1 ∧ f1 235 = .int .i64 ((kl + 1 : Nat) : Int) ∧ (∀ i, i < 202 → f1 i = f i) ∧ FarOK w' base f1 (kl + 1) ∧ UpF base S w w' := by
  by_cases h32 : kl < 32
  · refine (push_near S kl start f w hS hk h32 hs).mono fun e w' ⟨he, U⟩ => ⟨he, _, U.sc, rfl, fun i hi => ?_, ?_, UpF.of U.gr hb⟩
    · simp only [upd]; rw [if_neg (by omega), if_neg (by omega)]
    · rcases hf with ⟨h1, h2⟩ | ⟨g, c, ys, h1, _⟩
      · refine Or.inl ⟨by omega, ?_⟩
        simp only [upd]; rw [if_neg (by omega), if_neg (by omega)]; exact h2
      · omega
  · rcases hf with ⟨h1, h2⟩ | ⟨g, c, ys, h1, h2, h3⟩
    · have h0 : kl = 32 := by omega
      subst h0
      refine (push_far0 S start base [] f w hS hk hs h2 (World.ownsRow_nil _ _ _ _) hb hSb).mono ?_
      rintro e w' ⟨he, v', hs', ho, hu⟩
      obtain ⟨g, c, rfl, _⟩ := ho.form (by omega)
      refine ⟨he, _, hs', rfl, fun i hi => ?_, Or.inr ⟨g, c, _, by omega, rfl, ho⟩, hu⟩
      simp only [upd]; rw [if_neg (by omega), if_neg (by omega)]
    · obtain ⟨q, rfl⟩ : ∃ q, kl = q + 32 := ⟨kl - 32, by omega⟩
      rw [show q + 32 - 32 = q by omega] at h2 h3
      refine (push_far S q start base g c ys f w hS (by rw [hk]; exact vint (by omega)) (by omega) hs h2 h3 hb hSb (own_cap' h3)).mono ?_
      rintro e w' ⟨he, v', hs', ho, hu⟩
      obtain ⟨g', c', rfl, _⟩ := ho.form (by omega)
      refine ⟨he, _, hs', vint (by omega), fun i hi => ?_, Or.inr ⟨g', c', ys ++ [.int .i32 start], by omega, ?_, ?_⟩, hu⟩
      · simp only [upd]; rw [if_neg (by omega), if_neg (by omega)]
      · rw [show q + 32 + 1 - 32 = q + 1 by omega]; rfl
      · rw [show q + 32 + 1 - 32 = q + 1 by omega]; exact ho

/-- The Scanner behind a key of two bytes that starts at p. -/
def keyRead (f : Nat → Value) (Dt cap p : Nat) : Nat → Value := upd (upd (upd f 4 (.int .i64 (2 : Nat))) 3 (.slice (some ⟨Dt, p + 2, none⟩) 2 (cap - (p + 2)))) 1 (.int .i64 ((p + 2 + 2 : Nat) : Int))

/-- What a key leaves. -/
def KeyPost (w : World) (S Dt cap p kl base : Nat) (f : Nat → Value) (e : Ending) (w' : World) : Prop :=
  e = .returned (.int .i64 1) ∧ ∃ f2, SC w' S (upd (upd (upd f2 19 (.int .i32 ((p : Int) + 2))) 20 (.int .i32 ((p : Int) + 4))) 16 (.bool false)) ∧ f2 235 = .int .i64 ((kl + 1 : Nat) : Int) ∧ (∀ i, i < 202 → f2 i = keyRead f Dt cap p i) ∧ FarOK w' base f2 (kl + 1) ∧ UpF base S w w'

theorem hid1 {base S : Nat} {w w2 : World} (hb : base ≤ w.heap.size) (h : UpF base S w w2) : base ≤ w2.heap.size := Nat.le_trans hb h.size

theorem key_close {w w2 : World} {S Dt cap p kl base : Nat} {f f2 : Nat → Value} (hb : base ≤ w2.heap.size) (S2 : SC w2 S f2) (k2 : f2 235 = .int .i64 ((kl + 1 : Nat) : Int)) (e2 : ∀ i, i < 202 → f2 i = keyRead f Dt cap p i) (F2 : FarOK w2 base f2 (kl + 1)) (U2 : UpF base S w w2) (m : Nat) :
    KeyPost w S Dt cap p kl base f (.returned (.int .i64 1)) ((((w2.drewN m).setCell ⟨S, 19, none⟩ (.int .i32 ((p : Int) + 4 - 2))).setCell ⟨S, 20, none⟩ (.int .i32 ((p : Int) + 4))).setCell ⟨S, 16, none⟩ (.bool false)) := by
  have U := up_set (up_set (up_set (up_drewN (up_refl S2) m) 19 (.int .i32 ((p : Int) + 4 - 2))) 20 (.int .i32 ((p : Int) + 4))) 16 (.bool false)
  refine ⟨rfl, f2, ?_, k2, e2, F2.up S2 U.gr rfl, U2.trans (UpF.of U.gr hb)⟩
  have := U.sc
  rw [show (p : Int) + 4 - 2 = p + 2 by omega] at this ⊢
  exact this

set_option maxRecDepth 100000 in
set_option maxHeartbeats 4000000 in
/-- A key, in the dictionary of frame 1. -/
theorem key_first (S Dt n cap p kl base : Nat) (f : Nat → Value) (w : World) (hS : SC w S f) (h0 : f 0 = .slice (some ⟨Dt, 0, none⟩) n cap) (h1 : f 1 = .int .i64 p) (hSD : Dt ≠ S) (hn : n ≤ 100000) (hcap : n ≤ cap) (hp : p + 4 ≤ n)
    (hc0 : w.cell? ⟨Dt, p, none⟩ = some (.int .u8 50)) (he : w.cell? ⟨Dt, p + 1, none⟩ = some (.int .u8 58)) (hk : f 235 = .int .i64 kl) (hk2 : kl ≤ 1000) (hf : FarOK w base f kl) (hb : base ≤ w.heap.size) (hSb : S < base) (h19 : f 19 = .int .i32 (-1)) :
    Calls Ybaf.prog 15 #[.pointer (some ⟨S, 0, none⟩), .pointer (some ⟨S, 15, none⟩), .int .u8 50] w (KeyPost w S Dt cap p kl base f) := by
  have c1 : w.cell? ⟨S, 1, none⟩ = some (.int .i64 p) := by rw [hS.cell (by decide), h1]
  have i1 : (p : Int) ≤ 100000 := by omega
  go_enter Ybaf.func15, Ybaf.ntmps15
  go_wp2_with fail
  refine (string_one S Dt n cap p 2 f _ hS h0 h1 hSD hn hcap (by decide) (by decide) (by omega) hc0 he).mono ?_
  rintro _ w1 ⟨rfl, S1, G1⟩
  have F1 : FarOK w1 base (keyRead f Dt cap p) kl := hf.up hS G1 rfl
  have b1 : base ≤ w1.heap.size := Nat.le_trans hb G1.size
  have U1 := UpF.of G1 hb
  clear c1
  go_wp2_with fail
  refine (push_any S kl p base (keyRead f Dt cap p) w1 S1 hk hk2 (by omega) F1 b1 hSb).mono ?_
  rintro _ w2 ⟨rfl, f2, S2, k2, e2, F2, U2⟩
  have d19 : w2.cell? ⟨S, 19, none⟩ = some (.int .i32 (-1)) := by rw [S2.cell (by decide), e2 19 (by decide)]; exact congrArg some h19
  have d1 : w2.cell? ⟨S, 1, none⟩ = some (.int .i64 ((p : Int) + 4)) := by rw [S2.cell (by decide), e2 1 (by decide)]; exact congrArg some (vint (by omega))
  have d3 : w2.cell? ⟨S, 3, none⟩ = some (.slice (some ⟨Dt, p + 2, none⟩) 2 (cap - (p + 2))) := by rw [S2.cell (by decide), e2 3 (by decide)]; rfl
  have d20 : w2.cell? ⟨S, 20, none⟩ = some (f2 20) := S2.cell (by decide)
  have d16 : w2.cell? ⟨S, 16, none⟩ = some (f2 16) := S2.cell (by decide)
  have z : ∀ i, w2.frozen? ⟨S, i, none⟩ = false := fun i => S2.frozen i
  have HS2 := hidp S2
  have HE2 := hidp e2
  have HF2 := hidp F2
  have HU2 := hidp (U1.trans U2)
  have HK2 := hidp k2
  clear S2 e2 F2 U2 k2 S1 G1 F1 b1 U1 hS h0 h1 hc0 he hk hf h19
  go_wp2_with fail
  go_quiet (fail)
  go_wp2_with fail
  go_region
  all_goals go_wp2_with fail
  go_ret
  exact key_close (hid1 hb HU2.out) HS2.out HK2.out HE2.out HF2.out HU2.out _

set_option maxRecDepth 100000 in
set_option maxHeartbeats 4000000 in
/-- A key, in the dictionary of frame 1. -/
theorem key_more (S Dt n cap p kl base lk : Nat) (x0 x1 y0 y1 : Int) (f : Nat → Value) (w : World) (hS : SC w S f) (h0 : f 0 = .slice (some ⟨Dt, 0, none⟩) n cap) (h1 : f 1 = .int .i64 p) (hSD : Dt ≠ S) (hn : n ≤ 100000) (hcap : n ≤ cap) (hp : p + 4 ≤ n)
    (hc0 : w.cell? ⟨Dt, p, none⟩ = some (.int .u8 50)) (he : w.cell? ⟨Dt, p + 1, none⟩ = some (.int .u8 58)) (hk : f 235 = .int .i64 kl) (hk2 : kl ≤ 1000) (hf : FarOK w base f kl) (hb : base ≤ w.heap.size) (hSb : S < base) (h19 : f 19 = .int .i32 lk) (h20 : f 20 = .int .i32 ((lk : Int) + 2)) (hlk : lk + 2 ≤ p) (m0 : w.cell? ⟨Dt, lk, none⟩ = some (.int .u8 y0)) (m1 : w.cell? ⟨Dt, lk + 1, none⟩ = some (.int .u8 y1)) (k0 : w.cell? ⟨Dt, p + 2, none⟩ = some (.int .u8 x0)) (k1 : w.cell? ⟨Dt, p + 2 + 1, none⟩ = some (.int .u8 x1))
    (ha0 : 0 ≤ x0 ∧ x0 ≤ 255) (ha1 : 0 ≤ x1 ∧ x1 ≤ 255) (hb0 : 0 ≤ y0 ∧ y0 ≤ 255) (hb1 : 0 ≤ y1 ∧ y1 ≤ 255) (hcmp : y0 < x0 ∨ (y0 = x0 ∧ y1 < x1)) (hDb : Dt < base) :
    Calls Ybaf.prog 15 #[.pointer (some ⟨S, 0, none⟩), .pointer (some ⟨S, 15, none⟩), .int .u8 50] w (KeyPost w S Dt cap p kl base f) := by
  have c1 : w.cell? ⟨S, 1, none⟩ = some (.int .i64 p) := by rw [hS.cell (by decide), h1]
  have i1 : (p : Int) ≤ 100000 := by omega
  go_enter Ybaf.func15, Ybaf.ntmps15
  go_wp2_with fail
  refine (string_one S Dt n cap p 2 f _ hS h0 h1 hSD hn hcap (by decide) (by decide) (by omega) hc0 he).mono ?_
  rintro _ w1 ⟨rfl, S1, G1⟩
  have F1 : FarOK w1 base (keyRead f Dt cap p) kl := hf.up hS G1 rfl
  have b1 : base ≤ w1.heap.size := Nat.le_trans hb G1.size
  have U1 := UpF.of G1 hb
  clear c1
  go_wp2_with fail
  refine (push_any S kl p base (keyRead f Dt cap p) w1 S1 hk hk2 (by omega) F1 b1 hSb).mono ?_
  rintro _ w2 ⟨rfl, f2, S2, k2, e2, F2, U2⟩
  have d19 : w2.cell? ⟨S, 19, none⟩ = some (.int .i32 lk) := by rw [S2.cell (by decide), e2 19 (by decide)]; exact congrArg some h19
  have d1 : w2.cell? ⟨S, 1, none⟩ = some (.int .i64 ((p : Int) + 4)) := by rw [S2.cell (by decide), e2 1 (by decide)]; exact congrArg some (vint (by omega))
  have d3 : w2.cell? ⟨S, 3, none⟩ = some (.slice (some ⟨Dt, p + 2, none⟩) 2 (cap - (p + 2))) := by rw [S2.cell (by decide), e2 3 (by decide)]; rfl
  have d20 : w2.cell? ⟨S, 20, none⟩ = some (.int .i32 ((lk : Int) + 2)) := by rw [S2.cell (by decide), e2 20 (by decide)]; exact congrArg some h20
  have d0 : w2.cell? ⟨S, 0, none⟩ = some (.slice (some ⟨Dt, 0, none⟩) n cap) := by rw [S2.cell (by decide), e2 0 (by decide)]; exact congrArg some h0
  have far : ∀ (o : Nat) (v : Value), w.cell? ⟨Dt, o, none⟩ = some v → w2.cell? ⟨Dt, o, none⟩ = some v := fun o v h => by rw [World.cell?_of_block ((U1.trans U2).block Dt hDb hSD)]; exact h
  have k0' := far _ _ k0
  have k1' := far _ _ k1
  have m0' := far _ _ m0
  have m1' := far _ _ m1
  have j1 : (0 : Int) ≤ (lk : Int) := by omega
  have j2 : (lk : Int) + 2 ≤ (cap : Int) := by omega
  have j3 : (lk : Int) ≤ 100000 := by omega
  have j4 : ((lk : Int) + 2).toNat = lk + 2 := by omega
  have j5 : ¬ cap = lk := by omega
  have CMP : Hid (∀ nn c1 c2, Calls Ybaf.prog 23 #[.slice (some ⟨Dt, p + 2, none⟩) 2 c1, .slice (some ⟨Dt, lk, none⟩) 2 c2] (w2.drewN nn) fun e w'' => e = .returned (.int .i64 1) ∧ ∃ m, w'' = w2.drewN m) :=
    hidp fun nn c1 c2 => (compare_two Dt (p + 2) lk c1 c2 x0 x1 y0 y1 (w2.drewN nn) k0' k1' m0' m1' ha0 ha1 hb0 hb1 hcmp).mono fun e w' h => ⟨h.1, nn, h.2⟩
  clear far k0 k1 m0 m1 k0' k1' m0' m1'
  have d16 : w2.cell? ⟨S, 16, none⟩ = some (f2 16) := S2.cell (by decide)
  have z : ∀ i, w2.frozen? ⟨S, i, none⟩ = false := fun i => S2.frozen i
  have HS2 := hidp S2
  have HE2 := hidp e2
  have HF2 := hidp F2
  have HU2 := hidp (U1.trans U2)
  have HK2 := hidp k2
  clear S2 e2 F2 U2 k2 S1 G1 F1 b1 U1 hS h0 h1 hc0 he hk hf h19 h20
  go_wp2_with fail
  go_quiet (first | (go_at_call 23; exact CMP.out _ _ _))
  go_wp2_with fail
  go_region
  all_goals go_wp2_with fail
  go_ret
  exact key_close (hid1 hb HU2.out) HS2.out HK2.out HE2.out HF2.out HU2.out _

end Go.Proofs.YbulkaglsFmt
