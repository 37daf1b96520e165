/-
  THE WALK of LawS1617ATruncatedBad.
-/
import Derived.Test.YbulkaglsFmtWhole
import Derived.Test.YbulkaglsFmtSkipBad
namespace Go.Proofs.YbulkaglsFmt
open Go.RowKit Go.Lib Go.Extern.Stop Go.Stop Go.Extern
attribute [local go_sem ↓] wp_alloc35

set_option maxRecDepth 100000 in
set_option maxHeartbeats 4000000 in
theorem bad_false (F : Interp) (ad : Option Addr) (b off len cap : Nat) (x : Nat → Int) (w : World) (hF : F.answers w.tape) (hl : len ≤ 600) (had : len ≠ 0 → ad = some ⟨b, off, none⟩)
    (hx : ∀ j, j < len → w.cell? ⟨b, off + j, none⟩ = some (.int .u8 (x j))) (hx2 : ∀ j, j < len → 0 ≤ x j ∧ x j ≤ 255) (hbw : len ≠ 0 → b < w.heap.size) :
    Calls Ybaf.prog 5 #[.slice ad len cap, .bool false] w fun e w' => e = .returned (.bool true) ∧ Below w.heap.size w w' := by
  have CT := hidt (cont_any ad b off len cap false x w hl had hx hx2 hbw)
  have hl1 : ¬ (600 : Int) < (len : Int) := by omega
  have hcl := contTo_len false x len
  obtain ⟨J, hJd⟩ : ∃ J, J = contTo false x len := ⟨_, rfl⟩
  rw [← hJd] at CT hcl
  have hJ0 : 0 < J.length := by
    rw [hJd]
    cases len with
    | zero => simp [contTo]
    | succ l =>
      obtain ⟨r, hr⟩ := contTo_split false x 0 (l + 1) (by omega)
      rw [hr]; simp [contTo]
  have hJ1 : J.length ≤ 10000 := by omega
  have HJ := hidt hJd
  have HJP : Hid (1 + J.length = pos false x len) := hidt (by rw [hJd]; rfl)
  clear hx hx2 hbw hJd hcl
  go_enter Ybaf.func5, Ybaf.ntmps5
  go_wp2_with fail
  refine CT.out.mono ?_
  rintro _ w1 ⟨g, c, rfl, o1, gr1, lt1⟩
  clear CT
  have hJ : Bytes w1 g J := fun j v hj => bytes_of_owns o1 j v (by rw [List.getElem?_append_left ((List.getElem?_eq_some_iff.1 hj).1)]; exact hj)
  have hc : J.length + 1 ≤ c := by
    have h := owns_cap o1
    simpa using h
  have hc' : (J.length : Int) ≤ (c : Int) := by omega
  have hb1 : w.heap.size ≤ w1.heap.size := gr1.size
  go_wp2_with (first
    | (at_builtin; refine app_src (w1 := w1) rfl _ _ rfl w.heap.size g c J rfl rfl hJ hb1 hJ0 (by omega) ?_; intro g3 c3 w3 o3 gr3 b3 l3))
  have B3 : Below w.heap.size w w3 := (below_of_grown gr1 (Nat.le_refl _) (by simp)).trans (below_of_grown gr3 hb1 (by simp))
  have y3 : Bytes w3 g3 (108 :: contTo false x len ++ []) := by
    have e : (108 :: J).length = 1 + J.length := by simp; omega
    have o3' : Owns w3 w.heap.size (.slice (some ⟨g3, 0, none⟩) (108 :: J).length c3) (108 :: J) := by rw [e]; exact o3
    have h := bytes_of_owns o3'
    rw [HJ.out] at h
    simpa using h
  have hcap : 1 + J.length ≤ c3 := by
    have e : (108 :: J).length = 1 + J.length := by simp; omega
    have o3' : Owns w3 w.heap.size (.slice (some ⟨g3, 0, none⟩) (108 :: J).length c3) (108 :: J) := by rw [e]; exact o3
    have h := owns_cap o3'
    omega
  have hs3 := B3.size
  have hF3 : F.answers w3.tape := by rw [B3.tape]; exact hF
  clear o1 o3 gr1 gr3 hJ hc'
  obtain ⟨f, hf, hf8, hf234⟩ := sc_new' w3
  refine (reset_any w3.heap.size f _ hf _ _ _).mono ?_
  rintro e w4 ⟨rfl, U4⟩
  have B4 : Below w.heap.size w w4 := (B3.alloc B3.size _).trans (below_of_grown U4.gr (by simp; omega) (by simp; omega))
  have hne : g3 ≠ w3.heap.size := by omega
  have y4 : Bytes w4 g3 (108 :: contTo false x len ++ []) := (y3.alloc _).grown U4.gr hne
  obtain ⟨S, hSe⟩ : ∃ S, S = w3.heap.size := ⟨_, rfl⟩
  have hSw : w.heap.size ≤ S := by omega
  have hgS : g3 < S := by omega
  rw [← hSe] at U4 hne ⊢
  have hnd1 : 1 + J.length ≤ 100000 := by omega
  have hnd2 : 1 < 1 + J.length := by omega
  have L4 : Live (reset f (.slice (some ⟨g3, 0, none⟩) (1 + J.length) c3)) g3 (1 + J.length) c3 0 0 0 := ⟨rfl, rfl, rfl, rfl, rfl, hf8, rfl⟩
  have N1 := hidt (first8 S g3 (1 + J.length) c3 _ w4 U4.sc L4 hne hnd1 (by omega) (y4 0 108 rfl) rfl)
  have f234 : reset f (.slice (some ⟨g3, 0, none⟩) (1 + J.length) c3) 234 = .slice none 0 0 := hf234
  clear hf hf8 hf234 L4 B3 y3 hSe
  go_wp2_with fail
  refine N1.out.mono ?_
  rintro e w5 ⟨rfl, f5, U5, L5, q9, q235, q234⟩
  clear N1
  have y5 : Bytes w5 g3 (108 :: contTo false x len ++ []) := y4.grown U5.gr hne
  have B5 : Below w.heap.size w w5 := B4.trans (below_of_grown U5.gr B4.size (by simp; omega))
  have yc : w5.cell? ⟨g3, 1, none⟩ = some (.int .u8 108) := by
    have h0 : (108 :: contTo false x len ++ [])[1]? = some 108 := by
      cases len with
      | zero => rfl
      | succ l =>
        obtain ⟨r, hr⟩ := contTo_split false x 0 (l + 1) (by omega)
        rw [hr]; rfl
    exact y5 1 108 h0
  have N2 : Hid (Calls Ybaf.prog 8 #[.pointer (some ⟨S, 0, none⟩)] w5 fun e w' => e = .returned (.int .i64 3) ∧ ∃ f', Up w5 S w' f' ∧ PA w' w'.heap.size S g3 (1 + J.length) c3 false x 0 2 f' w' ∧ f' 5 = .int .i64 3) :=
    hidt (second8 S g3 (1 + J.length) c3 false x f5 w5 U5.sc L5 q9 hne hnd1 hnd2 yc q235 (q234.trans f234))
  clear U4 y4 B4 U5 L5 q9 q235 q234 f234 yc
  go_wp2_with fail
  refine N2.out.mono ?_
  rintro e w6 ⟨rfl, f6, U6, P6, p6⟩
  clear N2
  have y6 : Bytes w6 g3 (108 :: contTo false x len ++ []) := y5.grown U6.gr hne
  have B6 : Below w.heap.size w w6 := B5.trans (below_of_grown U6.gr B5.size (by simp; omega))
  have hS6 : S < w6.heap.size := P6.c.sc.lt
  have hF6 : F.answers w6.tape := by rw [B6.tape]; exact hF
  have SK : Hid (Calls Ybaf.prog 9 #[.pointer (some ⟨S, 0, none⟩)] w6 fun e w' => e = .returned (.tuple #[]) ∧ Badly w6 w6.heap.size S w') := by
    rw [HJP.out] at P6 hnd1 hcap
    exact hidt (skip_bad F S g3 c3 w6.heap.size len 2 false x f6 w6 hF6 ⟨hne, hnd1, hcap, hS6, by omega⟩ (dat_of [] y6 (Nat.le_refl _)) hl P6 (by decide) (by decide) 3 p6 (by decide))
  clear y5 B5 U6 P6 p6 y6
  go_wp2_with fail
  refine SK.out.mono ?_
  rintro e w7 ⟨rfl, a7, f7, s7, e7, p7, up7⟩
  clear SK
  have B7 : Below w.heap.size w w7 := ⟨up7.os.trans B6.os, up7.tape.trans B6.tape, up7.output.trans B6.output, Nat.le_trans B6.size up7.size, fun j hj => (up7.block j (by omega) (by omega)).trans (B6.block j hj)⟩
  have e5 : w7.cell? ⟨S, 5, none⟩ = some (.int .i64 0) := by rw [s7.cell (by decide), p7]
  have ER := flip_same (err_any S f7 w7 s7)
  rw [e7] at ER
  have HER := hidt ER
  clear ER s7 e7 p7 up7 B6
  go_wp2_with (first | (go_at_call 10; refine HER.out.mono ?_; rintro e w' ⟨rfl, rfl⟩))
  go_ret
  exact ⟨rfl, B7⟩

set_option maxRecDepth 100000 in
set_option maxHeartbeats 4000000 in
theorem bad_true (F : Interp) (ad : Option Addr) (b off len cap : Nat) (x : Nat → Int) (w : World) (hF : F.answers w.tape) (hl : len ≤ 600) (had : len ≠ 0 → ad = some ⟨b, off, none⟩)
    (hx : ∀ j, j < len → w.cell? ⟨b, off + j, none⟩ = some (.int .u8 (x j))) (hx2 : ∀ j, j < len → 0 ≤ x j ∧ x j ≤ 255) (hbw : len ≠ 0 → b < w.heap.size) :
    Calls Ybaf.prog 5 #[.slice ad len cap, .bool true] w fun e w' => e = .returned (.bool true) ∧ Below w.heap.size w w' := by
  have CT := hidt (cont_any ad b off len cap true x w hl had hx hx2 hbw)
  have hl1 : ¬ (600 : Int) < (len : Int) := by omega
  have hcl := contTo_len true x len
  obtain ⟨J, hJd⟩ : ∃ J, J = contTo true x len := ⟨_, rfl⟩
  rw [← hJd] at CT hcl
  have hJ0 : 0 < J.length := by
    rw [hJd]
    cases len with
    | zero => simp [contTo]
    | succ l =>
      obtain ⟨r, hr⟩ := contTo_split true x 0 (l + 1) (by omega)
      rw [hr]; simp [contTo]
  have hJ1 : J.length ≤ 10000 := by omega
  have HJ := hidt hJd
  have HJP : Hid (1 + J.length = pos true x len) := hidt (by rw [hJd]; rfl)
  clear hx hx2 hbw hJd hcl
  go_enter Ybaf.func5, Ybaf.ntmps5
  go_wp2_with fail
  refine CT.out.mono ?_
  rintro _ w1 ⟨g, c, rfl, o1, gr1, lt1⟩
  clear CT
  have hJ : Bytes w1 g J := fun j v hj => bytes_of_owns o1 j v (by rw [List.getElem?_append_left ((List.getElem?_eq_some_iff.1 hj).1)]; exact hj)
  have hc : J.length + 1 ≤ c := by
    have h := owns_cap o1
    simpa using h
  have hc' : (J.length : Int) ≤ (c : Int) := by omega
  have hb1 : w.heap.size ≤ w1.heap.size := gr1.size
  go_wp2_with (first
    | (at_builtin; refine app_src (w1 := w1) rfl _ _ rfl w.heap.size g c J rfl rfl hJ hb1 hJ0 (by omega) ?_; intro g3 c3 w3 o3 gr3 b3 l3))
  have B3 : Below w.heap.size w w3 := (below_of_grown gr1 (Nat.le_refl _) (by simp)).trans (below_of_grown gr3 hb1 (by simp))
  have y3 : Bytes w3 g3 (108 :: contTo true x len ++ []) := by
    have e : (108 :: J).length = 1 + J.length := by simp; omega
    have o3' : Owns w3 w.heap.size (.slice (some ⟨g3, 0, none⟩) (108 :: J).length c3) (108 :: J) := by rw [e]; exact o3
    have h := bytes_of_owns o3'
    rw [HJ.out] at h
    simpa using h
  have hcap : 1 + J.length ≤ c3 := by
    have e : (108 :: J).length = 1 + J.length := by simp; omega
    have o3' : Owns w3 w.heap.size (.slice (some ⟨g3, 0, none⟩) (108 :: J).length c3) (108 :: J) := by rw [e]; exact o3
    have h := owns_cap o3'
    omega
  have hs3 := B3.size
  have hF3 : F.answers w3.tape := by rw [B3.tape]; exact hF
  clear o1 o3 gr1 gr3 hJ hc'
  obtain ⟨f, hf, hf8, hf234⟩ := sc_new' w3
  refine (reset_any w3.heap.size f _ hf _ _ _).mono ?_
  rintro e w4 ⟨rfl, U4⟩
  have B4 : Below w.heap.size w w4 := (B3.alloc B3.size _).trans (below_of_grown U4.gr (by simp; omega) (by simp; omega))
  have hne : g3 ≠ w3.heap.size := by omega
  have y4 : Bytes w4 g3 (108 :: contTo true x len ++ []) := (y3.alloc _).grown U4.gr hne
  obtain ⟨S, hSe⟩ : ∃ S, S = w3.heap.size := ⟨_, rfl⟩
  have hSw : w.heap.size ≤ S := by omega
  have hgS : g3 < S := by omega
  rw [← hSe] at U4 hne ⊢
  have hnd1 : 1 + J.length ≤ 100000 := by omega
  have hnd2 : 1 < 1 + J.length := by omega
  have L4 : Live (reset f (.slice (some ⟨g3, 0, none⟩) (1 + J.length) c3)) g3 (1 + J.length) c3 0 0 0 := ⟨rfl, rfl, rfl, rfl, rfl, hf8, rfl⟩
  have N1 := hidt (first8 S g3 (1 + J.length) c3 _ w4 U4.sc L4 hne hnd1 (by omega) (y4 0 108 rfl) rfl)
  have f234 : reset f (.slice (some ⟨g3, 0, none⟩) (1 + J.length) c3) 234 = .slice none 0 0 := hf234
  clear hf hf8 hf234 L4 B3 y3 hSe
  go_wp2_with fail
  refine N1.out.mono ?_
  rintro e w5 ⟨rfl, f5, U5, L5, q9, q235, q234⟩
  clear N1
  have y5 : Bytes w5 g3 (108 :: contTo true x len ++ []) := y4.grown U5.gr hne
  have B5 : Below w.heap.size w w5 := B4.trans (below_of_grown U5.gr B4.size (by simp; omega))
  have yc : w5.cell? ⟨g3, 1, none⟩ = some (.int .u8 100) := by
    have h0 : (108 :: contTo true x len ++ [])[1]? = some 100 := by
      cases len with
      | zero => rfl
      | succ l =>
        obtain ⟨r, hr⟩ := contTo_split true x 0 (l + 1) (by omega)
        rw [hr]; rfl
    exact y5 1 100 h0
  have N2 : Hid (Calls Ybaf.prog 8 #[.pointer (some ⟨S, 0, none⟩)] w5 fun e w' => e = .returned (.int .i64 4) ∧ ∃ f', Up w5 S w' f' ∧ PA w' w'.heap.size S g3 (1 + J.length) c3 true x 0 2 f' w' ∧ f' 5 = .int .i64 4) :=
    hidt (second8 S g3 (1 + J.length) c3 true x f5 w5 U5.sc L5 q9 hne hnd1 hnd2 yc q235 (q234.trans f234))
  clear U4 y4 B4 U5 L5 q9 q235 q234 f234 yc
  go_wp2_with fail
  refine N2.out.mono ?_
  rintro e w6 ⟨rfl, f6, U6, P6, p6⟩
  clear N2
  have y6 : Bytes w6 g3 (108 :: contTo true x len ++ []) := y5.grown U6.gr hne
  have B6 : Below w.heap.size w w6 := B5.trans (below_of_grown U6.gr B5.size (by simp; omega))
  have hS6 : S < w6.heap.size := P6.c.sc.lt
  have hF6 : F.answers w6.tape := by rw [B6.tape]; exact hF
  have SK : Hid (Calls Ybaf.prog 9 #[.pointer (some ⟨S, 0, none⟩)] w6 fun e w' => e = .returned (.tuple #[]) ∧ Badly w6 w6.heap.size S w') := by
    rw [HJP.out] at P6 hnd1 hcap
    exact hidt (skip_bad F S g3 c3 w6.heap.size len 2 true x f6 w6 hF6 ⟨hne, hnd1, hcap, hS6, by omega⟩ (dat_of [] y6 (Nat.le_refl _)) hl P6 (by decide) (by decide) 4 p6 (by decide))
  clear y5 B5 U6 P6 p6 y6
  go_wp2_with fail
  refine SK.out.mono ?_
  rintro e w7 ⟨rfl, a7, f7, s7, e7, p7, up7⟩
  clear SK
  have B7 : Below w.heap.size w w7 := ⟨up7.os.trans B6.os, up7.tape.trans B6.tape, up7.output.trans B6.output, Nat.le_trans B6.size up7.size, fun j hj => (up7.block j (by omega) (by omega)).trans (B6.block j hj)⟩
  have e5 : w7.cell? ⟨S, 5, none⟩ = some (.int .i64 0) := by rw [s7.cell (by decide), p7]
  have ER := flip_same (err_any S f7 w7 s7)
  rw [e7] at ER
  have HER := hidt ER
  clear ER s7 e7 p7 up7 B6
  go_wp2_with (first | (go_at_call 10; refine HER.out.mono ?_; rintro e w' ⟨rfl, rfl⟩))
  go_ret
  exact ⟨rfl, B7⟩

set_option maxRecDepth 100000 in
theorem bad_big (ad : Option Addr) (len cap : Nat) (dict : Bool) (w : World) (hm : len ≤ maxLen) (hl : ¬ len ≤ 600) :
    Calls Ybaf.prog 5 #[.slice ad len cap, .bool dict] w fun e w' => e = .returned (.bool true) ∧ Below w.heap.size w w' := by
  have hl1 : (600 : Int) < (len : Int) := by omega
  have hl2 : (len : Int) ≤ 9223372036854775807 := by unfold maxLen at hm; omega
  clear hm
  go_enter Ybaf.func5, Ybaf.ntmps5
  go_wp2_with fail
  go_ret
  exact ⟨rfl, Below.refl _ _⟩

theorem bad_walk (F : Interp) (ad : Option Addr) (b off len cap : Nat) (dict : Bool) (x : Nat → Int) (w : World) (hF : F.answers w.tape) (hm : len ≤ maxLen) (had : len ≠ 0 → ad = some ⟨b, off, none⟩)
    (hx : ∀ j, j < len → w.cell? ⟨b, off + j, none⟩ = some (.int .u8 (x j))) (hx2 : ∀ j, j < len → 0 ≤ x j ∧ x j ≤ 255) (hbw : len ≠ 0 → b < w.heap.size) :
    Calls Ybaf.prog 5 #[.slice ad len cap, .bool dict] w fun e w' => e = .returned (.bool true) ∧ Below w.heap.size w w' := by
  by_cases h : len ≤ 600
  · cases dict with
    | false => exact bad_false F ad b off len cap x w hF h had hx hx2 hbw
    | true => exact bad_true F ad b off len cap x w hF h had hx hx2 hbw
  · exact bad_big ad len cap dict w hm h

end Go.Proofs.YbulkaglsFmt
