/-
  The container's bytes inside the data; the first two calls of Next.
-/
import Derived.Test.YbulkaglsFmtSkip
import Derived.Test.YbulkaglsFmtAtom
namespace Go.Proofs.YbulkaglsFmt
open Go.RowKit Go.Lib

theorem contTo_split (dict : Bool) (x : Nat → Int) (i : Nat) : ∀ len, i < len → ∃ rest, contTo dict x len = contTo dict x i ++ itemBytes dict x i ++ rest
  | 0, h => absurd h (by omega)
  | len + 1, h => by
    by_cases hi : i = len
    · subst hi; exact ⟨[], by simp [contTo]⟩
    · obtain ⟨r, hr⟩ := contTo_split dict x i len (by omega)
      exact ⟨r ++ itemBytes dict x len, by simp [contTo, hr]⟩

theorem get_mid (A B C : List Int) (j : Nat) (v : Int) (h : B[j]? = some v) : (A ++ B ++ C)[A.length + j]? = some v := by
  have hj : j < B.length := (List.getElem?_eq_some_iff.1 h).1
  rw [List.append_assoc, List.getElem?_append_right (by omega), Nat.add_sub_cancel_left, List.getElem?_append_left hj, h]

theorem dat_of {w : World} {Dt n len : Nat} {dict : Bool} {x : Nat → Int} (R : List Int) (h : Bytes w Dt (108 :: contTo dict x len ++ R)) (hn : pos dict x len ≤ n) : Dat w Dt n dict x len := by
  refine ⟨fun i hi j v hj => ?_, fun hd i hi => ?_, fun i hi => ?_⟩
  · obtain ⟨r, hr⟩ := contTo_split dict x i len hi
    have e : (108 :: contTo dict x len ++ R : List Int) = (108 :: contTo dict x i ++ (if dict = true then keyBytes i else [])) ++ valBytes (x i) ++ (r ++ R) := by rw [hr]; simp [itemBytes]
    rw [e] at h
    have hl : (108 :: contTo dict x i ++ (if dict = true then keyBytes i else []) : List Int).length = vpos dict x i := by cases dict <;> simp [vpos, pos, keyBytes] <;> omega
    have := h _ v (get_mid _ _ _ j v hj)
    rw [hl] at this
    exact this
  · subst hd
    obtain ⟨r, hr⟩ := contTo_split true x i len hi
    have e : (108 :: contTo true x len ++ R : List Int) = (108 :: contTo true x i) ++ [50, 58, 97 + (i : Int) / 26, 97 + (i : Int) % 26] ++ (valBytes (x i) ++ r ++ R) := by rw [hr]; simp [itemBytes, keyBytes]
    rw [e] at h
    have hl : (108 :: contTo true x i : List Int).length = pos true x i := by simp [pos]; omega
    have g := fun j v hj => h _ v (get_mid (108 :: contTo true x i) [50, 58, 97 + (i : Int) / 26, 97 + (i : Int) % 26] (valBytes (x i) ++ r ++ R) j v hj)
    rw [hl] at g
    exact ⟨g 0 _ rfl, g 1 _ rfl, g 2 _ rfl, g 3 _ rfl⟩
  · by_cases he : i = len
    · subst he; exact hn
    · obtain ⟨r, hr⟩ := contTo_split dict x i len (by omega)
      have : (contTo dict x i).length ≤ (contTo dict x len).length := by rw [hr]; simp
      simp only [pos] at hn ⊢; omega

theorem sc_new' (w : World) : ∃ f, SC (w.alloc scanBlock) w.heap.size f ∧ f 8 = .int .i64 0 ∧ f 234 = .slice none 0 0 := by
  refine ⟨fun i => scanCells.getD i undef, ?_, by rfl, by rfl⟩
  have h := World.rowIs_alloc w scanCells.toArray 35 (fun i => scanCells.getD i undef) (fun i hi => by
    have hi' : i < scanCells.length := by simpa using hi
    rw [List.getElem?_toArray, List.getD_eq_getElem?_getD, List.getElem?_eq_getElem hi']; rfl)
  exact h

/-- The first item: the outer list. -/
theorem first8 (S Dt n cap : Nat) (f : Nat → Value) (w : World) (hS : SC w S f) (L : Live f Dt n cap 0 0 0) (hSD : Dt ≠ S) (hn : n ≤ 100000) (hp : 0 < n) (hc : w.cell? ⟨Dt, 0, none⟩ = some (.int .u8 108)) (hk : f 235 = .int .i64 0) :
    Calls Ybaf.prog 8 #[.pointer (some ⟨S, 0, none⟩)] w fun e w' => e = .returned (.int .i64 3) ∧ ∃ f', Up w S w' f' ∧ Live f' Dt n cap 1 1 1 ∧ f' 9 = .bool false ∧ f' 235 = .int .i64 0 ∧ f' 234 = f 234 := by
  refine (Next_of S w 3 _ (next_first S Dt n cap 0 f w hS L hSD hn hp hc 0 hk (by decide) (by decide))).mono ?_
  rintro e w' ⟨he, U⟩
  exact ⟨he, _, U, ⟨L.h0, rfl, L.h2, L.h6, rfl, L.h8, rfl⟩, rfl, hk, rfl⟩

/-- The container opens. -/
theorem second8 (S Dt n cap : Nat) (dict : Bool) (x : Nat → Int) (f : Nat → Value) (w : World) (hS : SC w S f) (L : Live f Dt n cap 1 1 1) (h9 : f 9 = .bool false) (hSD : Dt ≠ S) (hn : n ≤ 100000) (hp : 1 < n) (hc : w.cell? ⟨Dt, 1, none⟩ = some (.int .u8 (if dict = true then 100 else 108))) (hk : f 235 = .int .i64 0) (hf : f 234 = .slice none 0 0) :
    Calls Ybaf.prog 8 #[.pointer (some ⟨S, 0, none⟩)] w fun e w' => e = .returned (.int .i64 (if dict = true then 4 else 3)) ∧ ∃ f', Up w S w' f' ∧ PA w' w'.heap.size S Dt n cap dict x 0 2 f' w' ∧ f' 5 = .int .i64 (if dict = true then 4 else 3) := by
  cases dict with
  | false =>
    refine (Next_of S w 3 _ (next_open_0_false_108 S Dt n cap 1 1 f w hS L hSD hn (by decide) (by decide) h9 hp hc 0 hk (by decide) (by decide))).mono ?_
    rintro e w' ⟨he, U⟩
    exact ⟨he, _, U, ⟨⟨U.sc, UpF.refl _ _ _, Nat.le_refl _, ⟨L.h0, rfl, L.h2, L.h6, rfl, L.h8, rfl⟩, h9, rfl, rfl, rfl, hk, Or.inl ⟨by decide, hf⟩⟩, fun h => by cases h⟩, rfl⟩
  | true =>
    refine (Next_of S w 4 _ (next_open_0_false_100 S Dt n cap 1 1 f w hS L hSD hn (by decide) (by decide) h9 hp hc 0 hk (by decide) (by decide))).mono ?_
    rintro e w' ⟨he, U⟩
    exact ⟨he, _, U, ⟨⟨U.sc, UpF.refl _ _ _, Nat.le_refl _, ⟨L.h0, rfl, L.h2, L.h6, rfl, L.h8, rfl⟩, h9, rfl, rfl, rfl, hk, Or.inl ⟨by decide, hf⟩⟩, fun _ => ⟨rfl, fun _ => rfl, fun j hj => absurd hj (by omega)⟩⟩, rfl⟩

end Go.Proofs.YbulkaglsFmt
