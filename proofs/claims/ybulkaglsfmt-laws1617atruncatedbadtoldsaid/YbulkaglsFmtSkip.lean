/-
  WALK: (*Scanner).Skip over the container.
-/
import Derived.Test.YbulkaglsFmtInv
import Derived.Test.YbulkaglsFmtScan
namespace Go.Proofs.YbulkaglsFmt
open Go.RowKit Go.Lib

theorem Live.set5 {f : Nat → Value} {Dt n cap p it d : Nat} (h : Live f Dt n cap p it d) (v : Value) : Live (upd f 5 v) Dt n cap p it d := ⟨h.h0, h.h1, h.h2, h.h6, h.h7, h.h8, h.hd⟩

section
variable {w0 w w' : World} {base S Dt n cap i it : Nat} {dict : Bool} {x : Nat → Int} {f : Nat → Value} {v : Value}
theorem PA.set5 (h : PA w0 base S Dt n cap dict x i it f w) (U : Up w S w' (upd f 5 v)) : PA w0 base S Dt n cap dict x i it (upd f 5 v) w' := ⟨h.c.go U (h.c.lv.set5 v) rfl rfl rfl rfl rfl rfl, h.k⟩
theorem PV.set5 (h : PV w0 base S Dt n cap dict x i it f w) (U : Up w S w' (upd f 5 v)) : PV w0 base S Dt n cap dict x i it (upd f 5 v) w' := ⟨h.c.go U (h.c.lv.set5 v) rfl rfl rfl rfl rfl rfl, h.k⟩
theorem PC.set5 {nd : Bool} (h : PC w0 base S Dt n cap dict x i it nd f w) (U : Up w S w' (upd f 5 v)) : PC w0 base S Dt n cap dict x i it nd (upd f 5 v) w' := ⟨h.c.go U (h.c.lv.set5 v) rfl rfl rfl rfl rfl rfl, h.k, h.f21, h.f22, h.f23, h.f24⟩
theorem PF.set5 {p : Nat} (h : PF w0 base S Dt n cap p it f w) (U : Up w S w' (upd f 5 v)) : PF w0 base S Dt n cap p it (upd f 5 v) w' := ⟨U.sc, h.up.trans (UpF.of U.gr h.hb), Nat.le_trans h.hb U.gr.size, h.lv.set5 v, h.f9⟩
end

/-- Next over a phase. -/
theorem next8 {S : Nat} {w : World} {K : Int} {Ph : (Nat → Value) → World → Prop} (hsc : ∀ g w1, Ph g w1 → SC w1 S g) (h5 : ∀ g w1 w2 v, Ph g w1 → Up w1 S w2 (upd g 5 v) → Ph (upd g 5 v) w2) (h : Stepped S w K Ph) :
    Calls Ybaf.prog 8 #[.pointer (some ⟨S, 0, none⟩)] w fun e w' => e = .returned (.int .i64 K) ∧ ∃ g, Ph g w' ∧ g 5 = .int .i64 K := by
  have H := hidp h
  have HSC := hidp hsc
  have H5 := hidp h5
  clear h hsc h5
  go_enter Ybaf.func8, Ybaf.ntmps8
  go_wp2_with fail
  refine H.out.mono ?_
  rintro e w1 ⟨rfl, g, hP⟩
  have s1 := HSC.out g w1 hP
  have c5 : w1.cell? ⟨S, 5, none⟩ = some (g 5) := s1.cell (by decide)
  have z5 := s1.frozen 5
  clear H
  go_wp2_with fail
  go_ret
  exact ⟨rfl, _, H5.out _ _ _ _ hP (up_set (up_refl s1) 5 _), rfl⟩

/-- The container's bytes in the data. -/
structure Dat (w0 : World) (Dt n : Nat) (dict : Bool) (x : Nat → Int) (len : Nat) : Prop where
  val : ∀ i, i < len → ∀ j v, (valBytes (x i))[j]? = some v → w0.cell? ⟨Dt, vpos dict x i + j, none⟩ = some (.int .u8 v)
  key : dict = true → ∀ i, i < len → w0.cell? ⟨Dt, pos dict x i, none⟩ = some (.int .u8 50) ∧ w0.cell? ⟨Dt, pos dict x i + 1, none⟩ = some (.int .u8 58) ∧ w0.cell? ⟨Dt, pos dict x i + 2, none⟩ = some (.int .u8 (97 + (i : Int) / 26)) ∧ w0.cell? ⟨Dt, pos dict x i + 3, none⟩ = some (.int .u8 (97 + (i : Int) % 26))
  le : ∀ i, i ≤ len → pos dict x i ≤ n

/-- How many calls of Next are still to come at most; the phase. -/
inductive Phase (w0 : World) (base S Dt n cap : Nat) (dict : Bool) (x : Nat → Int) (len : Nat) (g : Nat) (f : Nat → Value) (w : World) : Prop where
  | a (i it : Nat) (hi : i ≤ len) (hg : g = 3 * (len - i) + 1) (ht : it + g ≤ 3000) (h1 : 1 ≤ it) (h : PA w0 base S Dt n cap dict x i it f w) : Phase w0 base S Dt n cap dict x len g f w
  | v (i it : Nat) (hi : i < len) (hd : dict = true) (hg : g = 3 * (len - i)) (ht : it + g ≤ 3000) (h1 : 1 ≤ it) (h : PV w0 base S Dt n cap dict x i it f w) : Phase w0 base S Dt n cap dict x len g f w
  | c (i it : Nat) (nd : Bool) (hi : i < len) (hv : x i % 4 = if nd = true then 3 else 2) (hg : g = 3 * (len - i) - 1) (ht : it + g ≤ 3000) (h1 : 1 ≤ it) (h : PC w0 base S Dt n cap dict x i it nd f w) : Phase w0 base S Dt n cap dict x len g f w

theorem val4 (x : Int) : x % 4 = 0 ∨ x % 4 = 1 ∨ x % 4 = 2 ∨ x % 4 = 3 := by omega

/-- From a value's start. -/
theorem at_value {w0 w : World} {base S Dt n cap i it len g : Nat} {dict : Bool} {x : Nat → Int} {f : Nat → Value} (F : Fix w0 base S Dt n cap) (D : Dat w0 Dt n dict x len) (hl : len ≤ 600) (h : PV w0 base S Dt n cap dict x i it f w) (hi : i < len) (hit : 1 ≤ it) (hg : 3 * (len - i) ≤ g) (ht : it + g ≤ 3000) :
    ∃ K, K ≠ 0 ∧ Stepped S w K (fun f' w' => ∃ g', g' < g ∧ Phase w0 base S Dt n cap dict x len g' f' w') := by
  have hle := D.le (i + 1) hi
  rw [pos_succ] at hle
  rcases val4 (x i) with h4 | h4 | h4 | h4
  · have hv : valBytes (x i) = [105, 48 + x i / 4 % 10, 101] := by simp [valBytes, h4]
    rw [hv] at hle
    have hD := D.val i hi
    rw [hv] at hD
    simp only [List.length_cons, List.length_nil] at hle
    refine ⟨2, by decide, (step_int F h hit (by omega) h4 (by omega) (hD 0 _ rfl) (hD 1 _ rfl) (hD 2 _ rfl)).mono fun e w' hh => ⟨hh.1, ?_⟩⟩
    obtain ⟨f', hP⟩ := hh.2
    exact ⟨f', 3 * (len - (i + 1)) + 1, by omega, .a (i + 1) (it + 1) (by omega) rfl (by omega) (by omega) hP⟩
  · have hv : valBytes (x i) = [49, 58, 120] := by simp [valBytes, h4]
    rw [hv] at hle
    have hD := D.val i hi
    rw [hv] at hD
    simp only [List.length_cons, List.length_nil] at hle
    refine ⟨1, by decide, (step_str F h hit (by omega) h4 (by omega) (hD 0 _ rfl) (hD 1 _ rfl)).mono fun e w' hh => ⟨hh.1, ?_⟩⟩
    obtain ⟨f', hP⟩ := hh.2
    exact ⟨f', 3 * (len - (i + 1)) + 1, by omega, .a (i + 1) (it + 1) (by omega) rfl (by omega) (by omega) hP⟩
  · have hv : valBytes (x i) = [108, 101] := by simp [valBytes, h4]
    rw [hv] at hle
    have hD := D.val i hi
    rw [hv] at hD
    simp only [List.length_cons, List.length_nil] at hle
    refine ⟨3, by decide, (step_open_108 F h hit (by omega) (by omega) (by omega) (hD 0 _ rfl)).mono fun e w' hh => ⟨hh.1, ?_⟩⟩
    obtain ⟨f', hP⟩ := hh.2
    exact ⟨f', 3 * (len - i) - 1, by omega, .c i (it + 1) false hi h4 rfl (by omega) (by omega) hP⟩
  · have hv : valBytes (x i) = [100, 101] := by simp [valBytes, h4]
    rw [hv] at hle
    have hD := D.val i hi
    rw [hv] at hD
    simp only [List.length_cons, List.length_nil] at hle
    refine ⟨4, by decide, (step_open_100 F h hit (by omega) (by omega) (by omega) (hD 0 _ rfl)).mono fun e w' hh => ⟨hh.1, ?_⟩⟩
    obtain ⟨f', hP⟩ := hh.2
    exact ⟨f', 3 * (len - i) - 1, by omega, .c i (it + 1) true hi h4 rfl (by omega) (by omega) hP⟩

/-- A call of next that is not the container's last. -/
theorem at_phase {w0 w : World} {base S Dt n cap len g : Nat} {dict : Bool} {x : Nat → Int} {f : Nat → Value} (F : Fix w0 base S Dt n cap) (D : Dat w0 Dt n dict x len) (hl : len ≤ 600) (h : Phase w0 base S Dt n cap dict x len g f w) :
    (∃ it, g = 1 ∧ PA w0 base S Dt n cap dict x len it f w ∧ 1 ≤ it ∧ it ≤ 3000) ∨ ∃ K, K ≠ 0 ∧ Stepped S w K (fun f' w' => ∃ g', g' < g ∧ Phase w0 base S Dt n cap dict x len g' f' w') := by
  cases h with
  | a i it hi hg ht h1 hP =>
    by_cases hlt : i < len
    · right
      cases dict with
      | false =>
        have hV : PV w0 base S Dt n cap false x i it f w := ⟨hP.c, fun e => by cases e⟩
        exact at_value F D hl hV hlt h1 (by omega) ht
      | true =>
        have hle := D.le (i + 1) hlt
        rw [pos_succ] at hle
        have hvp : vpos true x i = pos true x i + 4 := by simp [vpos]
        refine ⟨1, by decide, (step_key F hP h1 (by omega) (by omega) (by omega) (fun j hj => D.key rfl j (by omega)) (fun j hj => ?_)).mono fun e w' hh => ⟨hh.1, ?_⟩⟩
        · subst hj; rw [pos_succ]; simp [vpos]
        · obtain ⟨f', hP'⟩ := hh.2
          exact ⟨f', 3 * (len - i), by omega, .v i (it + 1) hlt rfl rfl (by omega) (by omega) hP'⟩
    · left
      have : i = len := by omega
      subst this
      exact ⟨it, by omega, hP, h1, by omega⟩
  | v i it hi hd hg ht h1 hP =>
    right
    exact at_value F D hl hP hi h1 (by omega) ht
  | c i it nd hi hv hg ht h1 hP =>
    right
    have hle := D.le (i + 1) hi
    rw [pos_succ] at hle
    cases nd with
    | false =>
      have h4 : x i % 4 = 2 := hv
      have hvb : valBytes (x i) = [108, 101] := by simp [valBytes, h4]
      rw [hvb] at hle
      have hD := D.val i hi
      rw [hvb] at hD
      simp only [List.length_cons, List.length_nil] at hle
      refine ⟨5, by decide, (step_endl F hP h1 (by omega) h4 (by omega) (hD 1 _ rfl)).mono fun e w' hh => ⟨hh.1, ?_⟩⟩
      obtain ⟨f', hP'⟩ := hh.2
      exact ⟨f', 3 * (len - (i + 1)) + 1, by omega, .a (i + 1) (it + 1) (by omega) rfl (by omega) (by omega) hP'⟩
    | true =>
      have h4 : x i % 4 = 3 := hv
      have hvb : valBytes (x i) = [100, 101] := by simp [valBytes, h4]
      rw [hvb] at hle
      have hD := D.val i hi
      rw [hvb] at hD
      simp only [List.length_cons, List.length_nil] at hle
      refine ⟨5, by decide, (step_endd F hP h1 (by omega) (by omega) h4 (by omega) (hD 1 _ rfl)).mono fun e w' hh => ⟨hh.1, ?_⟩⟩
      obtain ⟨f', hP'⟩ := hh.2
      exact ⟨f', 3 * (len - (i + 1)) + 1, by omega, .a (i + 1) (it + 1) (by omega) rfl (by omega) (by omega) hP'⟩

theorem Phase.sc {w0 w : World} {base S Dt n cap len g : Nat} {dict : Bool} {x : Nat → Int} {f : Nat → Value} (h : Phase w0 base S Dt n cap dict x len g f w) : SC w S f := by
  cases h with
  | a i it hi hg ht h1 hP => exact hP.c.sc
  | v i it hi hd hg ht h1 hP => exact hP.c.sc
  | c i it nd hi hv hg ht h1 hP => exact hP.c.sc

theorem Phase.deep {w0 w : World} {base S Dt n cap len g : Nat} {dict : Bool} {x : Nat → Int} {f : Nat → Value} (h : Phase w0 base S Dt n cap dict x len g f w) : ∃ d : Nat, 2 ≤ d ∧ d ≤ 3 ∧ f 201 = .int .i64 d := by
  cases h with
  | a i it hi hg ht h1 hP => exact ⟨2, by decide, by decide, hP.c.lv.hd⟩
  | v i it hi hd hg ht h1 hP => exact ⟨2, by decide, by decide, hP.c.lv.hd⟩
  | c i it nd hi hv hg ht h1 hP => exact ⟨3, by decide, by decide, hP.c.lv.hd⟩

theorem Phase.set5 {w0 w w' : World} {base S Dt n cap len g : Nat} {dict : Bool} {x : Nat → Int} {f : Nat → Value} {v : Value} (h : Phase w0 base S Dt n cap dict x len g f w) (U : Up w S w' (upd f 5 v)) : Phase w0 base S Dt n cap dict x len g (upd f 5 v) w' := by
  cases h with
  | a i it hi hg ht h1 hP => exact .a i it hi hg ht h1 (hP.set5 U)
  | v i it hi hd hg ht h1 hP => exact .v i it hi hd hg ht h1 (hP.set5 U)
  | c i it nd hi hv hg ht h1 hP => exact .c i it nd hi hv hg ht h1 (hP.set5 U)

/-- The loop's relation. -/
def Rel (w0 : World) (base S Dt n cap : Nat) (dict : Bool) (x : Nat → Int) (len g : Nat) (w' : World) : Prop :=
  (∃ f', Phase w0 base S Dt n cap dict x len g f' w' ∧ 0 < g) ∨ (g = 0 ∧ ∃ f' it', PF w0 base S Dt n cap (pos dict x len + 1) it' f' w' ∧ f' 5 = .int .i64 5 ∧ 1 ≤ it' ∧ it' ≤ 3001)

theorem Phase.pos {w0 w : World} {base S Dt n cap len g : Nat} {dict : Bool} {x : Nat → Int} {f : Nat → Value} (h : Phase w0 base S Dt n cap dict x len g f w) : 0 < g := by
  cases h with
  | a i it hi hg ht h1 hP => omega
  | v i it hi hd hg ht h1 hP => omega
  | c i it nd hi hv hg ht h1 hP => omega

/-- One call of Next inside the container. -/
theorem round8 {w0 w : World} {base S Dt n cap len g : Nat} {dict : Bool} {x : Nat → Int} {f : Nat → Value} (F : Fix w0 base S Dt n cap) (D : Dat w0 Dt n dict x len) (hl : len ≤ 600) (hend : pos dict x len < n) (hb : w0.cell? ⟨Dt, pos dict x len, none⟩ = some (.int .u8 101)) (h : Phase w0 base S Dt n cap dict x len g f w) :
    ∃ K, K ≠ 0 ∧ Calls Ybaf.prog 8 #[.pointer (some ⟨S, 0, none⟩)] w fun e w' => e = .returned (.int .i64 K) ∧ ∃ g', g' < g ∧ Rel w0 base S Dt n cap dict x len g' w' := by
  rcases at_phase F D hl h with ⟨it, hg, hP, h1, h2⟩ | ⟨K, hK, hS⟩
  · refine ⟨5, by decide, (next8 (Ph := PF w0 base S Dt n cap (pos dict x len + 1) (it + 1)) (fun _ _ h => h.sc) (fun _ _ _ _ h U => h.set5 U) (step_fin F hP h1 (by omega) hend hb)).mono ?_⟩
    rintro e w' ⟨he, f', hF, h5⟩
    exact ⟨he, 0, by omega, Or.inr ⟨rfl, f', it + 1, hF, h5, by omega, by omega⟩⟩
  · refine ⟨K, hK, (next8 (Ph := fun f' w' => ∃ g', g' < g ∧ Phase w0 base S Dt n cap dict x len g' f' w') (fun _ _ h => by obtain ⟨_, _, h⟩ := h; exact h.sc) (fun _ _ _ _ h U => by obtain ⟨g', hg, h⟩ := h; exact ⟨g', hg, h.set5 U⟩) hS).mono ?_⟩
    rintro e w' ⟨he, f', ⟨g', hg, hP⟩, h5⟩
    exact ⟨he, g', hg, Or.inl ⟨f', hP, hP.pos⟩⟩

set_option maxRecDepth 100000 in
set_option maxHeartbeats 4000000 in
/-- Skip over the whole container. -/
theorem skip_whole (S Dt n cap base len it : Nat) (dict : Bool) (x : Nat → Int) (f : Nat → Value) (w : World) (F : Fix w base S Dt n cap) (D : Dat w Dt n dict x len) (hl : len ≤ 600) (hP : PA w base S Dt n cap dict x 0 it f w) (hit : 1 ≤ it) (hit2 : it ≤ 10)
    (K : Int) (h5 : f 5 = .int .i64 K) (hK : K = 3 ∨ K = 4) (hend : pos dict x len < n) (hb : w.cell? ⟨Dt, pos dict x len, none⟩ = some (.int .u8 101)) :
    Calls Ybaf.prog 9 #[.pointer (some ⟨S, 0, none⟩)] w fun e w' => e = .returned (.tuple #[]) ∧ ∃ g it', PF w base S Dt n cap (pos dict x len + 1) it' g w' ∧ g 5 = .int .i64 5 ∧ 1 ≤ it' ∧ it' ≤ 3001 := by
  have c5 : w.cell? ⟨S, 5, none⟩ = some (.int .i64 K) := by rw [hP.c.sc.cell (by decide), h5]
  have c201 : w.cell? ⟨S, 201, none⟩ = some (.int .i64 2) := by rw [hP.c.sc.cell (by decide), hP.c.lv.hd]; rfl
  have P0 : Phase w base S Dt n cap dict x len (3 * len + 1) f w := .a 0 it (by omega) (by omega) (by omega) hit hP
  have HP0 : Hid (Rel w base S Dt n cap dict x len (3 * len + 1) w) := hidp (Or.inl ⟨f, P0, P0.pos⟩)
  have HF := hidp F
  have HD := hidp D
  have HB := hidp hb
  clear hP P0 F D hb
  rcases hK with h | h
  · subst h
    go_enter Ybaf.func9, Ybaf.ntmps9
    go_wp2_with fail
    go_loopg [] (3 * len + 1) (fun g wl => Rel w base S Dt n cap dict x len g wl)
    case atStart => exact HP0.out
    case round =>
      have HR := hidp hrel
      clear hrel c5 c201 HP0
      rcases HR.out with ⟨f1, hPh, hg1⟩ | ⟨hg0, f1, it1, hF, h51, hi1, hi2⟩
      · obtain ⟨d, hd1, hd2, hd3⟩ := hPh.deep
        have c201 : wr.cell? ⟨S, 201, none⟩ = some (.int .i64 d) := by rw [hPh.sc.cell (by decide), hd3]
        have hd4 : (1 : Int) < (d : Int) := by omega
        obtain ⟨K', hK1, H8⟩ := round8 HF.out HD.out hl hend HB.out hPh
        have hK2 : (K' == 0) = false := by simpa using hK1
        have HH8 := hidp H8
        clear H8 hPh
        go_wp2_with fail
        refine HH8.out.mono ?_
        rintro e w1 ⟨rfl, g', hlt, hR⟩
        have HR' := hidp hR
        clear hR HH8
        go_wp2_with fail
        go_roundg g'
        case rel => exact HR'.out
        case measure => exact hlt
      · have c201 : wr.cell? ⟨S, 201, none⟩ = some (.int .i64 1) := by rw [hF.sc.cell (by decide), hF.lv.hd]; rfl
        have HFF := hidp hF
        clear hF
        go_wp2_with fail
        go_end0
        exact ⟨rfl, f1, it1, HFF.out, h51, hi1, hi2⟩
  · subst h
    go_enter Ybaf.func9, Ybaf.ntmps9
    go_wp2_with fail
    go_loopg [] (3 * len + 1) (fun g wl => Rel w base S Dt n cap dict x len g wl)
    case atStart => exact HP0.out
    case round =>
      have HR := hidp hrel
      clear hrel c5 c201 HP0
      rcases HR.out with ⟨f1, hPh, hg1⟩ | ⟨hg0, f1, it1, hF, h51, hi1, hi2⟩
      · obtain ⟨d, hd1, hd2, hd3⟩ := hPh.deep
        have c201 : wr.cell? ⟨S, 201, none⟩ = some (.int .i64 d) := by rw [hPh.sc.cell (by decide), hd3]
        have hd4 : (1 : Int) < (d : Int) := by omega
        obtain ⟨K', hK1, H8⟩ := round8 HF.out HD.out hl hend HB.out hPh
        have hK2 : (K' == 0) = false := by simpa using hK1
        have HH8 := hidp H8
        clear H8 hPh
        go_wp2_with fail
        refine HH8.out.mono ?_
        rintro e w1 ⟨rfl, g', hlt, hR⟩
        have HR' := hidp hR
        clear hR HH8
        go_wp2_with fail
        go_roundg g'
        case rel => exact HR'.out
        case measure => exact hlt
      · have c201 : wr.cell? ⟨S, 201, none⟩ = some (.int .i64 1) := by rw [hF.sc.cell (by decide), hF.lv.hd]; rfl
        have HFF := hidp hF
        clear hF
        go_wp2_with fail
        go_end0
        exact ⟨rfl, f1, it1, HFF.out, h51, hi1, hi2⟩

end Go.Proofs.YbulkaglsFmt
