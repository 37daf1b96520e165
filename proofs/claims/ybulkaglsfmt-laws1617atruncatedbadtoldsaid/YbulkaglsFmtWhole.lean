/-
  THE WALK of LawS1617ASkipsWhole.
-/
import Derived.Test.YbulkaglsFmtStart
namespace Go.Proofs.YbulkaglsFmt
open Go.RowKit Go.Lib
attribute [local go_sem ↓] wp_alloc35

/-- append([]byte{'l'}, J...), at a plain region's list. -/
theorem app_src {ops : Array Oper} {rest : List Oper} {o : Oper} {a : Act} {w1 : World} {Q : Exit → Act → World → Prop} (hgd : o.guard = none) (s x : Operand) (ho : o.op = .call { callee := .builtin .append, args := #[s, x], argTypes := #[22, 22] })
    (base g c : Nat) (J : List Int) (hs : a.eval s = .slice (some ⟨w1.heap.size, 0, none⟩) 1 1) (hx : a.eval x = .slice (some ⟨g, 0, none⟩) J.length c) (hJ : Bytes w1 g J) (hb : base ≤ w1.heap.size) (hJ0 : 0 < J.length) (hJ1 : J.length ≤ 100000)
    (h : ∀ g' c' w', Owns w' base (.slice (some ⟨g', 0, none⟩) (1 + J.length) c') (108 :: J) → w1.grownBy w' none → w1.heap.size ≤ g' → g' < w'.heap.size → wpList Ybaf.prog ops Q rest (a.put o.dst (.slice (some ⟨g', 0, none⟩) (1 + J.length) c')) w') :
    wpList Ybaf.prog ops Q (o :: rest) a (w1.alloc (.cells #[.int .u8 108] 5)) := by
  obtain ⟨i0, hi, hz0, hz1, hz2⟩ := info_parts info5
  have hown : (w1.alloc (.cells #[.int .u8 108] 5)).ownsRow base 5 1 (.slice (some ⟨w1.heap.size, 0, none⟩) 1 1) 1 [.int .u8 108] := World.ownsRow_lit w1 #[.int .u8 108] 1 hb (by unfold maxLen; omega) rfl
  refine wpList_append_lies _ hgd s x 22 ho base 5 i0 (.int .u8 0) 1 1 Ybaf.underlying22 hi hz0 hz1 hz2 rfl (by decide) (.slice (some ⟨w1.heap.size, 0, none⟩) 1 1) 1 [.int .u8 108] hs hown ⟨g, 0, none⟩ J.length c (J.map bv) hx (by simp) ?_ ?_ hJ0 ?_ ?_ ?_ (w1.heap.size + 1) ?_ ?_
  · intro j u hu
    rw [List.getElem?_map] at hu
    cases hj : J[j]? with
    | none => rw [hj] at hu; cases hu
    | some v =>
      rw [hj] at hu
      cases hu
      have e : (⟨g, 0, none⟩ : Addr).add j = ⟨g, j, none⟩ := by unfold Addr.add; split <;> simp_all
      rw [e]
      exact hJ.alloc _ j v hj
  · intro u hu
    obtain ⟨y, _, rfl⟩ := List.mem_map.1 hu
    rfl
  · unfold maxLen; omega
  · omega
  · simp; omega
  · simp
  · intro g' c' w' h1 h2 h3 h4
    have hg' : w1.heap.size ≤ g' := by
      rcases h3 with h3 | h3
      · have : w1.heap.size = g' := by simpa [Value.ownBlock] using h3
        omega
      · omega
    refine h g' c' w' ?_ ?_ hg' h4
    · have e : (108 :: J).length = 1 + J.length := by simp; omega
      show w'.ownsRow base 5 1 (.slice (some ⟨g', 0, none⟩) (1 + J.length) c') (108 :: J).length ((108 :: J).map bv)
      rw [e]
      exact h1
    · refine ⟨h2.os, h2.tape, h2.output, Nat.le_trans (by simp) h2.size, fun i hi _ => ?_⟩
      refine (h2.block i (by simp; omega) (fun e => ?_)).trans ((World.grownBy_alloc w1 _ none).block i hi (by simp))
      have : i = w1.heap.size := by simpa [Value.ownBlock] using e
      omega

set_option maxRecDepth 100000 in
set_option maxHeartbeats 4000000 in
theorem whole_false (ad : Option Addr) (b off len cap : Nat) (x : Nat → Int) (w : World) (hl : len ≤ 600) (had : len ≠ 0 → ad = some ⟨b, off, none⟩)
    (hx : ∀ j, j < len → w.cell? ⟨b, off + j, none⟩ = some (.int .u8 (x j))) (hx2 : ∀ j, j < len → 0 ≤ x j ∧ x j ≤ 255) (hbw : len ≠ 0 → b < w.heap.size) :
    Calls Ybaf.prog 3 #[.slice ad len cap, .bool false] w fun e w' => e = .returned (.bool true) ∧ Below w.heap.size w w' := by
  have CT := hidp (cont_any ad b off len cap false x w hl had hx hx2 hbw)
  have hl1 : ¬ (600 : Int) < (len : Int) := by omega
  have hcl := contTo_len false x len
  obtain ⟨I, hI⟩ : ∃ I, I = contTo false x len ++ [101] := ⟨_, rfl⟩
  have hIl : Hid (I.length = (contTo false x len).length + 1) := hidp (by rw [hI]; simp)
  have hI0 : 0 < I.length := by rw [hIl.out]; omega
  have hI1 : I.length ≤ 10000 := by rw [hIl.out]; omega
  rw [← hI] at CT
  have HI := hidp hI
  have HIP : Hid (I.length = pos false x len) := hidp (by rw [hIl.out]; simp [pos]; omega)
  clear hx hx2 hbw hI hcl
  go_enter Ybaf.func3, Ybaf.ntmps3
  go_wp2_with fail
  refine CT.out.mono ?_
  rintro _ w1 ⟨g, c, rfl, o1, gr1, lt1⟩
  clear CT
  have hJ : Bytes w1 g I := bytes_of_owns o1
  have hb1 : w.heap.size ≤ w1.heap.size := gr1.size
  go_wp2_with (first
    | (at_builtin; refine app_src (w1 := w1) rfl (.tmp 15) (.tmp 16) rfl w.heap.size g c I rfl rfl hJ hb1 hI0 (by omega) ?_; intro g2 c2 w2 o2 gr2 b2 l2)
    | (at_builtin; refine app_bytes rfl _ _ rfl w.heap.size (.slice (some ⟨g2, 0, none⟩) (1 + I.length) c2) (108 :: I) [101] 1 rfl rfl rfl (by decide) o2 (by omega) (by simp; omega) (by decide) ?_; intro g3 c3 w3 o3 gr3 a3 b3 l3))
  have B3 : Below w.heap.size w w3 := ((below_of_grown gr1 (Nat.le_refl _) (by simp)).trans (below_of_grown gr2 hb1 (by simp))).trans (below_of_grown gr3 (by omega) (by simp [Value.ownBlock]; omega))
  have y3 : Bytes w3 g3 (108 :: contTo false x len ++ [101, 101]) := by
    have h := bytes_of_owns o3
    rw [HI.out] at h
    simpa using h
  have hcap : I.length + 1 + 1 ≤ c3 := by
    have h := owns_cap o3
    simpa using h
  have hs3 := B3.size
  clear o1 o2 o3 gr1 gr2 gr3 a3 hJ
  obtain ⟨f, hf, hf8, hf234⟩ := sc_new' w3
  refine (reset_any w3.heap.size f _ hf _ _ _).mono ?_
  rintro e w4 ⟨rfl, U4⟩
  have B4 : Below w.heap.size w w4 := (B3.alloc B3.size _).trans (below_of_grown U4.gr (by simp; omega) (by simp; omega))
  have hne : g3 ≠ w3.heap.size := by omega
  have y4 : Bytes w4 g3 (108 :: contTo false x len ++ [101, 101]) := (y3.alloc _).grown U4.gr hne
  obtain ⟨S, hSe⟩ : ∃ S, S = w3.heap.size := ⟨_, rfl⟩
  have hSw : w.heap.size ≤ S := by omega
  have hgS : g3 < S := by omega
  rw [← hSe] at U4 hne ⊢
  obtain ⟨nd, hnd⟩ : ∃ nd, nd = I.length + 1 + 1 := ⟨_, rfl⟩
  have hnd' : Hid (nd = pos false x len + 2) := hidp (by rw [hnd, HIP.out])
  have hnd1 : nd ≤ 100000 := by omega
  have hnd2 : 1 < nd := by omega
  rw [← hnd] at U4 hcap ⊢
  have L4 : Live (reset f (.slice (some ⟨g3, 0, none⟩) nd c3)) g3 nd c3 0 0 0 := ⟨rfl, rfl, rfl, rfl, rfl, hf8, rfl⟩
  have N1 := hidp (first8 S g3 nd c3 _ w4 U4.sc L4 hne hnd1 (by omega) (y4 0 108 rfl) rfl)
  have f234 : reset f (.slice (some ⟨g3, 0, none⟩) nd c3) 234 = .slice none 0 0 := hf234
  clear hf hf8 hf234 L4 B3 y3 hSe
  go_wp2_with fail
  refine N1.out.mono ?_
  rintro e w5 ⟨rfl, f5, U5, L5, q9, q235, q234⟩
  clear N1
  have y5 : Bytes w5 g3 (108 :: contTo false x len ++ [101, 101]) := y4.grown U5.gr hne
  have B5 : Below w.heap.size w w5 := B4.trans (below_of_grown U5.gr B4.size (by simp; omega))
  have yc : w5.cell? ⟨g3, 1, none⟩ = some (.int .u8 108) := by
    have h0 : (108 :: contTo false x len ++ [101, 101])[1]? = some 108 := by
      cases len with
      | zero => rfl
      | succ l =>
        obtain ⟨r, hr⟩ := contTo_split false x 0 (l + 1) (by omega)
        rw [hr]; rfl
    exact y5 1 108 h0
  have N2 : Hid (Calls Ybaf.prog 8 #[.pointer (some ⟨S, 0, none⟩)] w5 fun e w' => e = .returned (.int .i64 3) ∧ ∃ f', Up w5 S w' f' ∧ PA w' w'.heap.size S g3 nd c3 false x 0 2 f' w' ∧ f' 5 = .int .i64 3) :=
    hidp (second8 S g3 nd c3 false x f5 w5 U5.sc L5 q9 hne hnd1 hnd2 yc q235 (q234.trans f234))
  clear U4 y4 B4 U5 L5 q9 q235 q234 f234 yc
  go_wp2_with fail
  refine N2.out.mono ?_
  rintro e w6 ⟨rfl, f6, U6, P6, p6⟩
  clear N2
  have y6 : Bytes w6 g3 (108 :: contTo false x len ++ [101, 101]) := y5.grown U6.gr hne
  have B6 : Below w.heap.size w w6 := B5.trans (below_of_grown U6.gr B5.size (by simp; omega))
  have hS6 : S < w6.heap.size := P6.c.sc.lt
  have yend : w6.cell? ⟨g3, pos false x len, none⟩ = some (.int .u8 101) ∧ w6.cell? ⟨g3, pos false x len + 1, none⟩ = some (.int .u8 101) := by
    have hlen : (108 :: contTo false x len : List Int).length = pos false x len := by simp [pos]; omega
    have e : (108 :: contTo false x len ++ [101, 101] : List Int) = (108 :: contTo false x len) ++ [101, 101] ++ [] := by simp
    rw [e] at y6
    have a := y6 _ _ (get_mid (108 :: contTo false x len) [101, 101] [] 0 101 rfl)
    have b := y6 _ _ (get_mid (108 :: contTo false x len) [101, 101] [] 1 101 rfl)
    rw [hlen] at a b
    exact ⟨a, b⟩
  have SK := hidp (skip_whole S g3 nd c3 w6.heap.size len 2 false x f6 w6 ⟨hne, hnd1, hcap, hS6, by omega⟩ (dat_of [101, 101] y6 (by have := hnd'.out; omega)) hl P6 (by decide) (by decide) 3 p6 (by decide) (by have := hnd'.out; omega) yend.1)
  have yend2 := hidp yend.2
  clear y5 B5 U6 P6 p6 y6 yend
  go_wp2_with fail
  refine SK.out.mono ?_
  rintro e w7 ⟨rfl, f7, it7, P7, p7, i71, i72⟩
  clear SK
  have B7 : Below w.heap.size w w7 := ⟨P7.up.os.trans B6.os, P7.up.tape.trans B6.tape, P7.up.output.trans B6.output, Nat.le_trans B6.size P7.up.size, fun j hj => (P7.up.block j (by omega) (by omega)).trans (B6.block j hj)⟩
  have y7 : w7.cell? ⟨g3, pos false x len + 1, none⟩ = some (.int .u8 101) := by
    rw [World.cell?_of_block (P7.up.block g3 (by omega) hne)]; exact yend2.out
  have L7 : Live f7 g3 nd c3 (I.length + 1) it7 1 := by rw [HIP.out]; exact P7.lv
  have e5 : w7.cell? ⟨S, 5, none⟩ = some (.int .i64 5) := by rw [P7.sc.cell (by decide), p7]
  have e201 : w7.cell? ⟨S, 201, none⟩ = some (.int .i64 1) := by rw [P7.sc.cell (by decide), P7.lv.hd]; rfl
  have OF := flip_same (offset_any S f7 w7 P7.sc)
  rw [L7.h1] at OF
  have ER := flip_same (err_any S f7 w7 P7.sc)
  rw [L7.h2] at ER
  have N3 := Next_of S w7 5 _ (next_end0 S g3 nd c3 (I.length + 1) it7 f7 w7 P7.sc L7 hne hnd1 i71 (by omega) P7.f9 (by omega) (by rw [HIP.out]; exact y7))
  have HOF := hidp OF
  have HER := hidp ER
  have HN3 := hidp N3
  have HL7 := hidp L7
  clear OF ER N3 P7 y7 yend2 B6 L7
  go_wp2_with (first | (go_at_call 11; refine HOF.out.mono ?_; rintro e w' ⟨rfl, rfl⟩) | (go_at_call 10; refine HER.out.mono ?_; rintro e w' ⟨rfl, rfl⟩))
  refine HN3.out.mono ?_
  rintro e w8 ⟨rfl, U8⟩
  have B8 : Below w.heap.size w w8 := B7.trans (below_of_grown U8.gr B7.size (by simp; omega))
  have OF8 := hidp (flip_same (offset_any S _ w8 U8.sc))
  have ER8 : Hid (Calls Ybaf.prog 10 #[.pointer (some ⟨S, 0, none⟩)] w8 fun e w' => e = .returned .nilIface ∧ w8 = w') := hidp (by
    have h := flip_same (err_any S _ w8 U8.sc)
    rw [show (upd (upd (upd (upd (upd f7 7 (.int .i64 ((it7 : Int) + 1))) 1 (.int .i64 (((I.length + 1 : Nat) : Int) + 1))) 201 (.int .i64 0)) 6 (.bool true)) 5 (.int .i64 5)) 2 = .nilIface from HL7.out.h2] at h
    exact h)
  have OF9 : Hid (Calls Ybaf.prog 11 #[.pointer (some ⟨S, 0, none⟩)] w8 fun e w' => e = .returned (.int .i64 (((I.length + 1 : Nat) : Int) + 1)) ∧ w8 = w') := OF8
  clear HN3 HOF HER U8 OF8 e5 e201
  go_wp2_with (first | (go_at_call 11; refine OF9.out.mono ?_; rintro e w' ⟨rfl, rfl⟩) | (go_at_call 10; refine ER8.out.mono ?_; rintro e w' ⟨rfl, rfl⟩))
  go_ret
  exact ⟨rfl, B8⟩

set_option maxRecDepth 100000 in
set_option maxHeartbeats 4000000 in
theorem whole_true (ad : Option Addr) (b off len cap : Nat) (x : Nat → Int) (w : World) (hl : len ≤ 600) (had : len ≠ 0 → ad = some ⟨b, off, none⟩)
    (hx : ∀ j, j < len → w.cell? ⟨b, off + j, none⟩ = some (.int .u8 (x j))) (hx2 : ∀ j, j < len → 0 ≤ x j ∧ x j ≤ 255) (hbw : len ≠ 0 → b < w.heap.size) :
    Calls Ybaf.prog 3 #[.slice ad len cap, .bool true] w fun e w' => e = .returned (.bool true) ∧ Below w.heap.size w w' := by
  have CT := hidp (cont_any ad b off len cap true x w hl had hx hx2 hbw)
  have hl1 : ¬ (600 : Int) < (len : Int) := by omega
  have hcl := contTo_len true x len
  obtain ⟨I, hI⟩ : ∃ I, I = contTo true x len ++ [101] := ⟨_, rfl⟩
  have hIl : Hid (I.length = (contTo true x len).length + 1) := hidp (by rw [hI]; simp)
  have hI0 : 0 < I.length := by rw [hIl.out]; omega
  have hI1 : I.length ≤ 10000 := by rw [hIl.out]; omega
  rw [← hI] at CT
  have HI := hidp hI
  have HIP : Hid (I.length = pos true x len) := hidp (by rw [hIl.out]; simp [pos]; omega)
  clear hx hx2 hbw hI hcl
  go_enter Ybaf.func3, Ybaf.ntmps3
  go_wp2_with fail
  refine CT.out.mono ?_
  rintro _ w1 ⟨g, c, rfl, o1, gr1, lt1⟩
  clear CT
  have hJ : Bytes w1 g I := bytes_of_owns o1
  have hb1 : w.heap.size ≤ w1.heap.size := gr1.size
  go_wp2_with (first
    | (at_builtin; refine app_src (w1 := w1) rfl (.tmp 15) (.tmp 16) rfl w.heap.size g c I rfl rfl hJ hb1 hI0 (by omega) ?_; intro g2 c2 w2 o2 gr2 b2 l2)
    | (at_builtin; refine app_bytes rfl _ _ rfl w.heap.size (.slice (some ⟨g2, 0, none⟩) (1 + I.length) c2) (108 :: I) [101] 1 rfl rfl rfl (by decide) o2 (by omega) (by simp; omega) (by decide) ?_; intro g3 c3 w3 o3 gr3 a3 b3 l3))
  have B3 : Below w.heap.size w w3 := ((below_of_grown gr1 (Nat.le_refl _) (by simp)).trans (below_of_grown gr2 hb1 (by simp))).trans (below_of_grown gr3 (by omega) (by simp [Value.ownBlock]; omega))
  have y3 : Bytes w3 g3 (108 :: contTo true x len ++ [101, 101]) := by
    have h := bytes_of_owns o3
    rw [HI.out] at h
    simpa using h
  have hcap : I.length + 1 + 1 ≤ c3 := by
    have h := owns_cap o3
    simpa using h
  have hs3 := B3.size
  clear o1 o2 o3 gr1 gr2 gr3 a3 hJ
  obtain ⟨f, hf, hf8, hf234⟩ := sc_new' w3
  refine (reset_any w3.heap.size f _ hf _ _ _).mono ?_
  rintro e w4 ⟨rfl, U4⟩
  have B4 : Below w.heap.size w w4 := (B3.alloc B3.size _).trans (below_of_grown U4.gr (by simp; omega) (by simp; omega))
  have hne : g3 ≠ w3.heap.size := by omega
  have y4 : Bytes w4 g3 (108 :: contTo true x len ++ [101, 101]) := (y3.alloc _).grown U4.gr hne
  obtain ⟨S, hSe⟩ : ∃ S, S = w3.heap.size := ⟨_, rfl⟩
  have hSw : w.heap.size ≤ S := by omega
  have hgS : g3 < S := by omega
  rw [← hSe] at U4 hne ⊢
  obtain ⟨nd, hnd⟩ : ∃ nd, nd = I.length + 1 + 1 := ⟨_, rfl⟩
  have hnd' : Hid (nd = pos true x len + 2) := hidp (by rw [hnd, HIP.out])
  have hnd1 : nd ≤ 100000 := by omega
  have hnd2 : 1 < nd := by omega
  rw [← hnd] at U4 hcap ⊢
  have L4 : Live (reset f (.slice (some ⟨g3, 0, none⟩) nd c3)) g3 nd c3 0 0 0 := ⟨rfl, rfl, rfl, rfl, rfl, hf8, rfl⟩
  have N1 := hidp (first8 S g3 nd c3 _ w4 U4.sc L4 hne hnd1 (by omega) (y4 0 108 rfl) rfl)
  have f234 : reset f (.slice (some ⟨g3, 0, none⟩) nd c3) 234 = .slice none 0 0 := hf234
  clear hf hf8 hf234 L4 B3 y3 hSe
  go_wp2_with fail
  refine N1.out.mono ?_
  rintro e w5 ⟨rfl, f5, U5, L5, q9, q235, q234⟩
  clear N1
  have y5 : Bytes w5 g3 (108 :: contTo true x len ++ [101, 101]) := y4.grown U5.gr hne
  have B5 : Below w.heap.size w w5 := B4.trans (below_of_grown U5.gr B4.size (by simp; omega))
  have yc : w5.cell? ⟨g3, 1, none⟩ = some (.int .u8 100) := by
    have h0 : (108 :: contTo true x len ++ [101, 101])[1]? = some 100 := by
      cases len with
      | zero => rfl
      | succ l =>
        obtain ⟨r, hr⟩ := contTo_split true x 0 (l + 1) (by omega)
        rw [hr]; rfl
    exact y5 1 100 h0
  have N2 : Hid (Calls Ybaf.prog 8 #[.pointer (some ⟨S, 0, none⟩)] w5 fun e w' => e = .returned (.int .i64 4) ∧ ∃ f', Up w5 S w' f' ∧ PA w' w'.heap.size S g3 nd c3 true x 0 2 f' w' ∧ f' 5 = .int .i64 4) :=
    hidp (second8 S g3 nd c3 true x f5 w5 U5.sc L5 q9 hne hnd1 hnd2 yc q235 (q234.trans f234))
  clear U4 y4 B4 U5 L5 q9 q235 q234 f234 yc
  go_wp2_with fail
  refine N2.out.mono ?_
  rintro e w6 ⟨rfl, f6, U6, P6, p6⟩
  clear N2
  have y6 : Bytes w6 g3 (108 :: contTo true x len ++ [101, 101]) := y5.grown U6.gr hne
  have B6 : Below w.heap.size w w6 := B5.trans (below_of_grown U6.gr B5.size (by simp; omega))
  have hS6 : S < w6.heap.size := P6.c.sc.lt
  have yend : w6.cell? ⟨g3, pos true x len, none⟩ = some (.int .u8 101) ∧ w6.cell? ⟨g3, pos true x len + 1, none⟩ = some (.int .u8 101) := by
    have hlen : (108 :: contTo true x len : List Int).length = pos true x len := by simp [pos]; omega
    have e : (108 :: contTo true x len ++ [101, 101] : List Int) = (108 :: contTo true x len) ++ [101, 101] ++ [] := by simp
    rw [e] at y6
    have a := y6 _ _ (get_mid (108 :: contTo true x len) [101, 101] [] 0 101 rfl)
    have b := y6 _ _ (get_mid (108 :: contTo true x len) [101, 101] [] 1 101 rfl)
    rw [hlen] at a b
    exact ⟨a, b⟩
  have SK := hidp (skip_whole S g3 nd c3 w6.heap.size len 2 true x f6 w6 ⟨hne, hnd1, hcap, hS6, by omega⟩ (dat_of [101, 101] y6 (by have := hnd'.out; omega)) hl P6 (by decide) (by decide) 4 p6 (by decide) (by have := hnd'.out; omega) yend.1)
  have yend2 := hidp yend.2
  clear y5 B5 U6 P6 p6 y6 yend
  go_wp2_with fail
  refine SK.out.mono ?_
  rintro e w7 ⟨rfl, f7, it7, P7, p7, i71, i72⟩
  clear SK
  have B7 : Below w.heap.size w w7 := ⟨P7.up.os.trans B6.os, P7.up.tape.trans B6.tape, P7.up.output.trans B6.output, Nat.le_trans B6.size P7.up.size, fun j hj => (P7.up.block j (by omega) (by omega)).trans (B6.block j hj)⟩
  have y7 : w7.cell? ⟨g3, pos true x len + 1, none⟩ = some (.int .u8 101) := by
    rw [World.cell?_of_block (P7.up.block g3 (by omega) hne)]; exact yend2.out
  have L7 : Live f7 g3 nd c3 (I.length + 1) it7 1 := by rw [HIP.out]; exact P7.lv
  have e5 : w7.cell? ⟨S, 5, none⟩ = some (.int .i64 5) := by rw [P7.sc.cell (by decide), p7]
  have e201 : w7.cell? ⟨S, 201, none⟩ = some (.int .i64 1) := by rw [P7.sc.cell (by decide), P7.lv.hd]; rfl
  have OF := flip_same (offset_any S f7 w7 P7.sc)
  rw [L7.h1] at OF
  have ER := flip_same (err_any S f7 w7 P7.sc)
  rw [L7.h2] at ER
  have N3 := Next_of S w7 5 _ (next_end0 S g3 nd c3 (I.length + 1) it7 f7 w7 P7.sc L7 hne hnd1 i71 (by omega) P7.f9 (by omega) (by rw [HIP.out]; exact y7))
  have HOF := hidp OF
  have HER := hidp ER
  have HN3 := hidp N3
  have HL7 := hidp L7
  clear OF ER N3 P7 y7 yend2 B6 L7
  go_wp2_with (first | (go_at_call 11; refine HOF.out.mono ?_; rintro e w' ⟨rfl, rfl⟩) | (go_at_call 10; refine HER.out.mono ?_; rintro e w' ⟨rfl, rfl⟩))
  refine HN3.out.mono ?_
  rintro e w8 ⟨rfl, U8⟩
  have B8 : Below w.heap.size w w8 := B7.trans (below_of_grown U8.gr B7.size (by simp; omega))
  have OF8 := hidp (flip_same (offset_any S _ w8 U8.sc))
  have ER8 : Hid (Calls Ybaf.prog 10 #[.pointer (some ⟨S, 0, none⟩)] w8 fun e w' => e = .returned .nilIface ∧ w8 = w') := hidp (by
    have h := flip_same (err_any S _ w8 U8.sc)
    rw [show (upd (upd (upd (upd (upd f7 7 (.int .i64 ((it7 : Int) + 1))) 1 (.int .i64 (((I.length + 1 : Nat) : Int) + 1))) 201 (.int .i64 0)) 6 (.bool true)) 5 (.int .i64 5)) 2 = .nilIface from HL7.out.h2] at h
    exact h)
  have OF9 : Hid (Calls Ybaf.prog 11 #[.pointer (some ⟨S, 0, none⟩)] w8 fun e w' => e = .returned (.int .i64 (((I.length + 1 : Nat) : Int) + 1)) ∧ w8 = w') := OF8
  clear HN3 HOF HER U8 OF8 e5 e201
  go_wp2_with (first | (go_at_call 11; refine OF9.out.mono ?_; rintro e w' ⟨rfl, rfl⟩) | (go_at_call 10; refine ER8.out.mono ?_; rintro e w' ⟨rfl, rfl⟩))
  go_ret
  exact ⟨rfl, B8⟩

set_option maxRecDepth 100000 in
theorem whole_big (ad : Option Addr) (len cap : Nat) (dict : Bool) (w : World) (hm : len ≤ maxLen) (hl : ¬ len ≤ 600) :
    Calls Ybaf.prog 3 #[.slice ad len cap, .bool dict] w fun e w' => e = .returned (.bool true) ∧ Below w.heap.size w w' := by
  have hl1 : (600 : Int) < (len : Int) := by omega
  have hl2 : (len : Int) ≤ 9223372036854775807 := by unfold maxLen at hm; omega
  clear hm
  go_enter Ybaf.func3, Ybaf.ntmps3
  go_wp2_with fail
  go_ret
  exact ⟨rfl, Below.refl _ _⟩

theorem whole_walk (ad : Option Addr) (b off len cap : Nat) (dict : Bool) (x : Nat → Int) (w : World) (hm : len ≤ maxLen) (had : len ≠ 0 → ad = some ⟨b, off, none⟩)
    (hx : ∀ j, j < len → w.cell? ⟨b, off + j, none⟩ = some (.int .u8 (x j))) (hx2 : ∀ j, j < len → 0 ≤ x j ∧ x j ≤ 255) (hbw : len ≠ 0 → b < w.heap.size) :
    Calls Ybaf.prog 3 #[.slice ad len cap, .bool dict] w fun e w' => e = .returned (.bool true) ∧ Below w.heap.size w w' := by
  by_cases h : len ≤ 600
  · cases dict with
    | false => exact whole_false ad b off len cap x w h had hx hx2 hbw
    | true => exact whole_true ad b off len cap x w h had hx hx2 hbw
  · exact whole_big ad len cap dict w hm h

end Go.Proofs.YbulkaglsFmt
