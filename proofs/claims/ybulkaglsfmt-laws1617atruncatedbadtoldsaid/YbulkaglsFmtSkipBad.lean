/-
  WALK: (*Scanner).Skip where the data ends inside the container.
-/
import Derived.Test.YbulkaglsFmtSkip
import Derived.Test.YbulkaglsFmtTrunc
namespace Go.Proofs.YbulkaglsFmt
open Go.RowKit Go.Lib Go.Extern.Stop Go.Stop Go.Extern

/-- The Scanner has failed. -/
def Badly (w0 : World) (base S : Nat) (w' : World) : Prop := ∃ a g, SC w' S g ∧ g 2 = .iface 65 (.pointer (some a)) ∧ g 5 = .int .i64 0 ∧ UpF base S w0 w'

/-- One call of Next inside the container. -/
theorem roundT {w0 w : World} {base S Dt cap len g : Nat} {dict : Bool} {x : Nat → Int} {f : Nat → Value} (F : Interp) (X : Fix w0 base S Dt (pos dict x len) cap) (D : Dat w0 Dt (pos dict x len) dict x len) (hl : len ≤ 600) (hF : F.answers w0.tape) (h : Phase w0 base S Dt (pos dict x len) cap dict x len g f w) :
    (Calls Ybaf.prog 8 #[.pointer (some ⟨S, 0, none⟩)] w fun e w' => e = .returned (.int .i64 0) ∧ Badly w0 base S w') ∨ ∃ K, K ≠ 0 ∧ Calls Ybaf.prog 8 #[.pointer (some ⟨S, 0, none⟩)] w fun e w' => e = .returned (.int .i64 K) ∧ ∃ g', g' < g ∧ ∃ f', Phase w0 base S Dt (pos dict x len) cap dict x len g' f' w' := by
  rcases at_phase X D hl h with ⟨it, hg, hP, h1, h2⟩ | ⟨K, hK, hS⟩
  · left
    have hF1 : F.answers w.tape := by rw [hP.c.up.tape]; exact hF
    have N : Stepped S w 0 (fun g w' => SC w' S g ∧ (∃ a, g 2 = .iface 65 (.pointer (some a))) ∧ w.grownBy w' (some S)) := by
      cases dict with
      | false =>
        refine (next_trunc_false F S Dt _ cap it f w hF1 hP.c.sc hP.c.lv X.n1 h1 (by omega) hP.c.f15).mono ?_
        rintro e w' ⟨he, a, g, s, g2, gr⟩
        exact ⟨he, g, s, ⟨a, g2⟩, gr⟩
      | true =>
        refine (next_trunc_true F S Dt _ cap it f w hF1 hP.c.sc hP.c.lv X.n1 h1 (by omega) hP.c.f15).mono ?_
        rintro e w' ⟨he, a, g, s, g2, gr⟩
        exact ⟨he, g, s, ⟨a, g2⟩, gr⟩
    refine (next8 (fun _ _ h => h.1) (fun _ _ _ _ h U => ⟨U.sc, h.2.1, grown_trans h.2.2 U.gr⟩) N).mono ?_
    rintro e w' ⟨he, g, ⟨s, ⟨a, g2⟩, gr⟩, g5⟩
    exact ⟨he, a, g, s, g2, g5, hP.c.up.trans (UpF.of gr hP.c.hb)⟩
  · right
    refine ⟨K, hK, (next8 (Ph := fun f' w' => ∃ g', g' < g ∧ Phase w0 base S Dt (pos dict x len) cap dict x len g' f' w') (fun _ _ h => by obtain ⟨_, _, h⟩ := h; exact h.sc) (fun _ _ _ _ h U => by obtain ⟨g', hg, h⟩ := h; exact ⟨g', hg, h.set5 U⟩) hS).mono ?_⟩
    rintro e w' ⟨he, f', ⟨g', hg, hP⟩, h5⟩
    exact ⟨he, g', hg, f', hP⟩

set_option maxRecDepth 100000 in
set_option maxHeartbeats 4000000 in
/-- Skip reads Bad. -/
theorem skip_bad (F : Interp) (S Dt cap base len it : Nat) (dict : Bool) (x : Nat → Int) (f : Nat → Value) (w : World) (hF : F.answers w.tape) (X : Fix w base S Dt (pos dict x len) cap) (D : Dat w Dt (pos dict x len) dict x len) (hl : len ≤ 600) (hP : PA w base S Dt (pos dict x len) cap dict x 0 it f w) (hit : 1 ≤ it) (hit2 : it ≤ 10)
    (K : Int) (h5 : f 5 = .int .i64 K) (hK : K = 3 ∨ K = 4) :
    Calls Ybaf.prog 9 #[.pointer (some ⟨S, 0, none⟩)] w fun e w' => e = .returned (.tuple #[]) ∧ Badly w base S w' := by
  have c5 : w.cell? ⟨S, 5, none⟩ = some (.int .i64 K) := by rw [hP.c.sc.cell (by decide), h5]
  have c201 : w.cell? ⟨S, 201, none⟩ = some (.int .i64 2) := by rw [hP.c.sc.cell (by decide), hP.c.lv.hd]; rfl
  have P0 : Phase w base S Dt (pos dict x len) cap dict x len (3 * len + 1) f w := .a 0 it (by omega) (by omega) (by omega) hit hP
  have HP0 := hidt P0
  have HF := hidt X
  have HD := hidt D
  have HA := hidt hF
  clear hP P0 X D hF
  rcases hK with h | h
  · subst h
    go_enter Ybaf.func9, Ybaf.ntmps9
    go_wp2_with fail
    go_loopg [] (3 * len + 1) (fun g wl => ∃ f', Phase w base S Dt (pos dict x len) cap dict x len g f' wl)
    case atStart => exact ⟨f, HP0.out⟩
    case round =>
      obtain ⟨f1, hPh⟩ := hrel
      clear c5 c201 HP0
      obtain ⟨d, hd1, hd2, hd3⟩ := hPh.deep
      have c201 : wr.cell? ⟨S, 201, none⟩ = some (.int .i64 d) := by rw [hPh.sc.cell (by decide), hd3]
      have hd4 : (1 : Int) < (d : Int) := by omega
      rcases roundT F HF.out HD.out hl HA.out hPh with H8 | ⟨K', hK1, H8⟩
      · have HH8 := hidt H8
        clear H8 hPh
        go_wp2_with fail
        refine HH8.out.mono ?_
        rintro e w1 ⟨rfl, hB⟩
        have HB := hidt hB
        clear hB HH8
        go_wp2_with fail
        exact bodyPost_ret (v := .tuple #[]) (by simp [results, Ybaf.results9, go_sem]) rfl ⟨rfl, HB.out⟩
      · have hK2 : (K' == 0) = false := by simpa using hK1
        have HH8 := hidt H8
        clear H8 hPh
        go_wp2_with fail
        refine HH8.out.mono ?_
        rintro e w1 ⟨rfl, g', hlt, hR⟩
        have HR' := hidt hR
        clear hR HH8
        go_wp2_with fail
        go_roundg g'
        case rel => exact HR'.out
        case measure => exact hlt
  · subst h
    go_enter Ybaf.func9, Ybaf.ntmps9
    go_wp2_with fail
    go_loopg [] (3 * len + 1) (fun g wl => ∃ f', Phase w base S Dt (pos dict x len) cap dict x len g f' wl)
    case atStart => exact ⟨f, HP0.out⟩
    case round =>
      obtain ⟨f1, hPh⟩ := hrel
      clear c5 c201 HP0
      obtain ⟨d, hd1, hd2, hd3⟩ := hPh.deep
      have c201 : wr.cell? ⟨S, 201, none⟩ = some (.int .i64 d) := by rw [hPh.sc.cell (by decide), hd3]
      have hd4 : (1 : Int) < (d : Int) := by omega
      rcases roundT F HF.out HD.out hl HA.out hPh with H8 | ⟨K', hK1, H8⟩
      · have HH8 := hidt H8
        clear H8 hPh
        go_wp2_with fail
        refine HH8.out.mono ?_
        rintro e w1 ⟨rfl, hB⟩
        have HB := hidt hB
        clear hB HH8
        go_wp2_with fail
        exact bodyPost_ret (v := .tuple #[]) (by simp [results, Ybaf.results9, go_sem]) rfl ⟨rfl, HB.out⟩
      · have hK2 : (K' == 0) = false := by simpa using hK1
        have HH8 := hidt H8
        clear H8 hPh
        go_wp2_with fail
        refine HH8.out.mono ?_
        rintro e w1 ⟨rfl, g', hlt, hR⟩
        have HR' := hidt hR
        clear hR HH8
        go_wp2_with fail
        go_roundg g'
        case rel => exact HR'.out
        case measure => exact hlt

end Go.Proofs.YbulkaglsFmt
