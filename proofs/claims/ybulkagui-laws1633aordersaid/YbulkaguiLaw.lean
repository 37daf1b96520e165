/-
  THE WALK of LawS1633AOrder.
-/
import Derived.Test.YbulkaguiStep
namespace Go.Proofs.Ybulkagui
open Go.RowKit Go.Lib

/-- The parent of node i. -/
def parOf (x : Nat → Nat) (i : Nat) : Nat := if i = 0 then 0 else x (i - 1) % i

theorem parOf_succ (x : Nat → Nat) (m : Nat) : parOf x (m + 1) = x m % (m + 1) := by simp [parOf]
theorem parOf_le (x : Nat → Nat) (i : Nat) : parOf x i ≤ i := by
  unfold parOf
  split
  · omega
  · exact Nat.le_of_lt (Nat.mod_lt _ (by omega))
theorem parOf_lt (x : Nat → Nat) (i : Nat) (h : 1 ≤ i) : parOf x i < i := by
  unfold parOf
  rw [if_neg (by omega)]
  exact Nat.mod_lt _ (by omega)

theorem run_neq_ptr_same {P : Program} (w : World) {tp te : TypeId} {j : TypeInfo} (a : Addr) (hp : P.underlying tp = some (.pointer te)) (hte : P.info? te = some j) :
    (binOp .neq tp (.pointer (some a)) (.pointer (some a))).run P w = .ok (.bool false) w := by
  have h : ∀ d : Nat, (Op.equalIn (d + 1) tp (.pointer (some a)) (.pointer (some a))).run P w = .ok true w := fun d => by
    simp [Op.equalIn, run_underlying hp, sizeOf, typeInfo, hte, run_sameAddr_same]
  simp only [binOp]
  simp [Op.equal, Op.maxDepth, h 9999]

theorem some37 : (Yba.prog.info? 37).isSome = true := by kernel_rfl

/-- An owned slice of ints, opened. -/
theorem ints_open {w : World} {B : Nat} {v : Value} {xs : List Nat} (h : Ints w B v xs) : ∃ qa cp, v = .slice qa xs.length cp ∧ (xs ≠ [] → ∃ g, qa = some ⟨g, 0, none⟩ ∧ g < w.heap.size ∧ ∀ j c, xs[j]? = some c → w.cell? ⟨g, j, none⟩ = some (iv c)) := by
  by_cases hn : xs = []
  · subst hn
    rcases h.2 with ⟨hv', _⟩ | ⟨g, cap, cur, hv', _⟩
    · exact ⟨none, 0, hv', fun h => absurd rfl h⟩
    · exact ⟨_, cap, hv', fun h => absurd rfl h⟩
  · obtain ⟨g, cap, hv', _, hlt⟩ := h.form (by cases xs with
      | nil => exact absurd rfl hn
      | cons x r => simp)
    refine ⟨_, cap, hv', fun _ => ⟨g, rfl, hlt, fun j c hj => ?_⟩⟩
    rw [hv'] at h
    have hjl : j < xs.length := by
      rcases Nat.lt_or_ge j xs.length with h | h
      · exact h
      · rw [List.getElem?_eq_none h] at hj; cases hj
    have := World.ownsRow.cellAt h j (by simpa using hjl)
    rw [this]
    simp [hj]

/-- What the walk meets, for the whole tree. -/
theorem out_ex (x : Nat → Nat) (n : Nat) (sk : Nat → Bool) : ∃ out, Seq (kidsAt (parOf x) n) sk (kidsAt (parOf x) n 0) 1 out ∧ out.length ≤ n + 1 ∧ ∀ e ∈ out.map Prod.fst, 1 ≤ e ∧ e ≤ n := by
  have hlt : ∀ v c, c ∈ kidsAt (parOf x) n v → v < c ∧ c ≤ n := fun v c h => by
    have k := mem_kids h
    have := parOf_lt x c k.1
    omega
  obtain ⟨out, ho⟩ := seq_ex sk hlt n (kidsAt (parOf x) n 0) 1 (fun c h => by have := mem_kids h; omega)
  have hm := seq_mem (fun c => 1 ≤ c ∧ c ≤ n) (fun v c h => by have := mem_kids h; omega) ho (fun c h => by have := mem_kids h; omega)
  refine ⟨out, ho, ?_, hm⟩
  have nd := seq_nodup (par := parOf x) (parOf_le x) (fun v c h => (mem_kids h).2.2) (fun v c h => (hlt v c h).1) (fun v => kids_nodup n v) ho 0 (kids_nodup n 0) (fun c h => ⟨(mem_kids h).2.2, (hlt 0 c h).1⟩)
  have := nodup_le (n + 1) _ nd (fun e he => by have := hm e he; omega)
  simpa using this

theorem since_weak {w w' : World} {B B' : Nat} (h : w.Since B' w') (hB : B ≤ B') : w.Since B w' := ⟨h.os, h.tape, h.output, h.size, fun k hk => h.block k (by omega)⟩
theorem kf_since {w w' : World} {base K : Nat} (h : KF base K w w') (hK : base ≤ K) : w.Since base w' := ⟨h.os, h.tape, h.output, h.size, fun k hk => h.block k hk (by omega)⟩
theorem links_since {w w' : World} {ND n B : Nat} {f g : Nat → Option Nat} (h : Links w ND n f g) (s : w.Since B w') (hB : ND < B) : Links w' ND n f g := fun i hi =>
  ⟨(s.cell (a := ⟨ND, i * 18 + 6, none⟩) hB).trans (h i hi).1, (s.cell (a := ⟨ND, i * 18 + 7, none⟩) hB).trans (h i hi).2⟩

/-- The Walker as the law makes it. -/
theorem walk_new (w4 : World) (ND : Nat) (t : Option Nat) (q : Option Addr) (hq : ptr ND t = .pointer q) :
    Walk ((w4.alloc (.cells #[.pointer q] 27)).alloc (.cells #[.slice (some ⟨w4.heap.size, 0, none⟩) 1 1, .pointer none] 43)) w4.heap.size (w4.heap.size + 1) ND [t] none := by
  have e : (w4.alloc (.cells #[.pointer q] 27)).heap.size = w4.heap.size + 1 := by simp
  refine ⟨⟨.slice (some ⟨w4.heap.size, 0, none⟩) 1 1, ?_, ?_⟩⟩
  · have h := World.rowIs_alloc (w4.alloc (.cells #[.pointer q] 27)) #[.slice (some ⟨w4.heap.size, 0, none⟩) 1 1, .pointer none] 43 (fun j => if j = 0 then .slice (some ⟨w4.heap.size, 0, none⟩) 1 1 else ptr ND none) (fun i hi => by
      match i, hi with
      | 0, _ => rfl
      | 1, _ => rfl)
    rw [e] at h
    exact h
  · refine World.ownsRow.alloc ?_ _
    refine ⟨rfl, .inr ⟨w4.heap.size, 1, #[.pointer q], rfl, Nat.le_refl _, heap_alloc_new w4 _, Nat.le_refl _, by unfold maxLen; omega, rfl, ?_⟩⟩
    show [Value.pointer q] = [ptr ND t]
    rw [hq]

theorem kf_new (w4 : World) (o1 o2 : Obj) : KF w4.heap.size (w4.heap.size + 1) w4 ((w4.alloc o1).alloc o2) := by
  have s : w4.Since w4.heap.size ((w4.alloc o1).alloc o2) := ((World.Since.refl _ w4).alloc (Nat.le_refl _) _).alloc (by simp) _
  exact ⟨s.os, s.tape, s.output, s.size, fun i hi _ => s.block i hi⟩

/-- append of one fresh int, the heap's size said otherwise. -/
theorem app_at {ops : Array Oper} {rest : List Oper} {o : Oper} {a : Act} {w : World} {Q : Exit → Act → World → Prop} (hgd : o.guard = none) (s x : Operand) (ho : o.op = .call { callee := .builtin .append, args := #[s, x], argTypes := #[26, 26] })
    (base : Nat) (v : Value) (xs : List Value) (y : Value) (n B : Nat) (hB : B = w.heap.size) (hy : y.oneCell' = true) (hs : a.eval s = v) (hx : a.eval x = .slice (some ⟨B, 0, none⟩) 1 1) (hown : w.ownsRow base 3 1 v n xs) (hb : base ≤ w.heap.size) (hl : n ≤ 1000000)
    (h : ∀ g cap w', w'.ownsRow base 3 1 (.slice (some ⟨g, 0, none⟩) (n + 1) cap) (n + 1) (xs ++ [y]) → w.grownBy w' v.ownBlock → (v.ownBlock = some g ∨ w.heap.size ≤ g) → base ≤ g → g < w'.heap.size → wpList Yba.prog ops Q rest (a.put o.dst (.slice (some ⟨g, 0, none⟩) (n + 1) cap)) w') :
    wpList Yba.prog ops Q (o :: rest) a (w.alloc (.cells #[y] 3)) := by
  subst hB
  exact app_one hgd s x 26 3 ho (.int .i64 0) 8 Yba.underlying26 info3 rfl (by decide) base v xs y n hy hs hx hown hb hl h

set_option maxRecDepth 100000 in
set_option maxHeartbeats 4000000 in
theorem order_walk (pa : Option Addr) (pb poff n pcap : Nat) (x : Nat → Nat) (ad : Option Addr) (b off len cap : Nat) (s : Nat → Bool) (w : World) (hpl : n ≤ maxLen) (hpad : n ≠ 0 → pa = some ⟨pb, poff, none⟩) (hpc : ∀ j, j < n → w.cell? ⟨pb, poff + j, none⟩ = some (.int .u8 (x j : Int))) (hx : ∀ j, j < n → x j ≤ 255)
    (hpb : n ≠ 0 → pb < w.heap.size) (hlen : len ≤ maxLen) (hS : Skips w ad b off len s) (hsb : len ≠ 0 → b < w.heap.size) :
    Calls Yba.prog 3 #[.slice pa n pcap, .slice ad len cap] w fun e w' => e = .returned (.bool true) ∧ w.Since w.heap.size w' := by
  have hn63 : (n : Int) ≤ 9223372036854775807 := by unfold maxLen at hpl; omega
  by_cases hbig : 1024 < n
  · have hbig' : (1024 : Int) < (n : Int) := by omega
    clear hpc hS hx hpad
    go_enter Yba.func3, Yba.ntmps3
    go_wp2_with fail
    go_ret
    exact ⟨rfl, World.Since.refl _ _⟩
  have hbig' : (n : Int) ≤ 1024 := by omega
  have hnb : ¬ (1024 : Int) < (n : Int) := by omega
  obtain ⟨Z, hZ1, hZ2, hZ3, hmk⟩ := make_nodes n (by omega)
  have hmk2 := run_make_row' (P := Yba.prog) 25 26 (.slice none 0 0) 24 Yba.underlying25 info26 rfl .i64 .i64 (n + 1) (by omega) (by omega)
  rw [Int.natCast_succ] at hmk2
  have HB0 := hid (built_zero w n (parOf x) Z hZ1 hZ2 hZ3)
  have HS := hid hS
  have HX := hid hx
  have HPC := hid hpc
  have HPAD := hid hpad
  have HPB := hid hpb
  have HSB := hid hsb
  clear hS hx hpc hpad hpb hsb hZ1 hZ2 hZ3
  go_enter Yba.func3, Yba.ntmps3
  go_wp2_with fail
  go_loopg [8] (n + 1) (fun g i wl => ∃ (m : Nat) (kv : Nat → Value), i = .int .i64 ((m : Int) + 1) ∧ m + g = n + 1 ∧ 1 ≤ g ∧ Built w w.heap.size n m m (parOf x) kv wl)
  case atStart => exact ⟨0, _, rfl, by omega, by omega, HB0.out⟩
  case round =>
    obtain ⟨m, kv, rfl, hg, hg1, hB⟩ := hrel
    have HG := hid hg
    have HB := hid hB
    clear hg hB hmk hmk2 HB0
    by_cases hm : m < n
    · have hm' : (m : Int) + 1 ≤ (n : Int) := by omega
      have hpad := HPAD.out (by omega)
      subst hpad
      have hpb := HPB.out (by omega)
      have pc : wr.cell? ⟨pb, poff + m, none⟩ = some (.int .u8 (x m : Int)) := (HB.out.since.cell (a := ⟨pb, poff + m, none⟩) hpb).trans (HPC.out m hm)
      have hxm : (x m : Int) ≤ 255 := by have := HX.out m hm; omega
      obtain ⟨p, hp⟩ : ∃ p, p = parOf x (m + 1) := ⟨_, rfl⟩
      have hpm : p ≤ m := by have := parOf_lt x (m + 1) (by omega); omega
      have hpi : (x m : Int) % ((m : Int) + 1) = (p : Int) := by rw [hp, parOf_succ]; simp
      have hpm' : (p : Int) ≤ (m : Int) := by omega
      have HP := hid hp
      obtain ⟨L, hL⟩ : ∃ L, L = kidsAt (parOf x) m p := ⟨_, rfl⟩
      have HL := hid hL
      have kc : wr.cell? ⟨w.heap.size + 1, p, none⟩ = some (kv p) := HB.out.kids.cell (by omega)
      have kz := HB.out.kids.frozen p
      obtain ⟨F, hF, _⟩ := HB.out.nodes
      have hL2 : L.length ≤ 2000 := by rw [hL]; have := kids_len (par := parOf x) m p; omega
      have hL2' : (L.length : Int) ≤ 2000 := by omega
      have n5 : wr.cell? ⟨w.heap.size, (m + 1) * 18 + 5, none⟩ = some _ := hF.cell (i := (m + 1) * 18 + 5) (by omega)
      have z5 := hF.frozen ((m + 1) * 18 + 5)
      clear hp hL
      by_cases hnil : L = []
      · have n6 : wr.cell? ⟨w.heap.size, p * 18 + 6, none⟩ = some _ := hF.cell (i := p * 18 + 6) (by omega)
        have z6 := hF.frozen (p * 18 + 6)
        obtain ⟨q, cq, hq⟩ : ∃ q cq, kv p = .slice q 0 cq := by
          have ho := HB.out.own p (by omega)
          rw [← HL.out, hnil] at ho
          rcases ho.2 with ⟨hv, _⟩ | ⟨g', cap', cur, hv, _⟩
          · exact ⟨none, 0, hv⟩
          · exact ⟨some ⟨g', 0, none⟩, cap', hv⟩
        rw [hq] at kc
        have HB2 := hid (built_parent (built_first HB.out (by rw [← HP.out, ← HL.out]; exact hnil)) (m + 1) (.pointer (some ⟨w.heap.size, p * 18, none⟩)))
        rw [← HP.out] at HB2
        have HO := hid (HB2.out.own p (by omega))
        rw [hq, ← HL.out] at HO
        have HQ := hid hq
        have HNil := hid hnil
        clear hq hnil hF
        go_wp2_with (at_builtin; refine app_at rfl _ _ rfl (w.heap.size + 2) (.slice q 0 cq) (L.map iv) (.int .i64 ((m : Int) + 1)) L.length wr.heap.size (by simp [World.setCell]) rfl rfl rfl HO.out HB2.out.sz (by omega) ?_; intro g1 cap1 w1 own1 gr1 al1 bl1 lt1; have kp1 := (row_kept HB2.out.kids HO.out (by decide) gr1).cell (i := p) (by omega); have kz1 := (row_kept HB2.out.kids HO.out (by decide) gr1).frozen p)
        go_roundg (gk - 1)
        case rel =>
          rw [← HQ.out] at gr1 al1
          rw [HL.out] at own1
          rw [HL.out]
          exact ⟨m + 1, _, by simp, by have := HG.out; omega, by have := HG.out; omega, built_app HB2.out HP.out.symm (by omega) own1 gr1 al1⟩
        case measure => have := HG.out; omega
      · obtain ⟨k, hk⟩ : ∃ k, L.length = k + 1 := ⟨L.length - 1, by cases L with
          | nil => exact absurd rfl hnil
          | cons a r => simp⟩
        obtain ⟨q, hq⟩ : ∃ q, L.getLast? = some q := ⟨_, List.getLast?_eq_some_getLast hnil⟩
        have hqm : q ≤ m := by have := List.mem_of_getLast? hq; rw [HL.out] at this; exact (mem_kids this).2.1
        have hqm' : (q : Int) ≤ (m : Int) := by omega
        have ho : wr.ownsRow (w.heap.size + 2) 3 1 (kv p) (kidsAt (parOf x) m p).length ((kidsAt (parOf x) m p).map iv) := HB.out.own p (by omega)
        rw [← HL.out] at ho
        obtain ⟨g, cp, hv, hbg, hlt⟩ := ho.form (by omega)
        rw [hk] at hv ho
        rw [hv] at kc ho
        have qc : wr.cell? ⟨g, k, none⟩ = some (.int .i64 (q : Int)) := by
          rw [World.ownsRow.cellAt ho k (by omega)]
          have : L[k]? = some q := by rw [← hq, List.getLast?_eq_getElem?, hk]; rfl
          simp [this]
        have n7 : wr.cell? ⟨w.heap.size, q * 18 + 7, none⟩ = some _ := hF.cell (i := q * 18 + 7) (by omega)
        have z7 := hF.frozen (q * 18 + 7)
        have hk' : (k : Int) ≤ 2000 := by omega
        have HBN := hid (fun j => built_next (HB.out.drewN j) (by rw [← HP.out, ← HL.out]; exact hq))
        have HV := hid hv
        have HKL := hid hk
        clear hv hnil hF ho hq hk
        go_wp2_with fail
        go_cut [] from 56 to 73 (fun w' => Built w w.heap.size n (m + 1) m (parOf x) kv w')
        case first =>
          go_region
          all_goals (go_wp2_with fail; go_meet; exact HBN.out _)
        case rest =>
          have HC := hid hcut
          clear hcut n5 z5 n7 z7 qc kc kz
          have kc : wc.cell? ⟨w.heap.size + 1, p, none⟩ = some (.slice (some ⟨g, 0, none⟩) (k + 1) cp) := by rw [← HV.out]; exact HC.out.kids.cell (by omega)
          have kz := HC.out.kids.frozen p
          obtain ⟨F', hF', _⟩ := HC.out.nodes
          have n5 : wc.cell? ⟨w.heap.size, (m + 1) * 18 + 5, none⟩ = some _ := hF'.cell (i := (m + 1) * 18 + 5) (by omega)
          have z5 := hF'.frozen ((m + 1) * 18 + 5)
          have HB2 := hid (built_parent HC.out (m + 1) (.pointer (some ⟨w.heap.size, p * 18, none⟩)))
          have HO := hid (show World.ownsRow _ _ 3 1 _ _ _ from HB2.out.own p (by omega))
          rw [HV.out, ← HL.out, HKL.out] at HO
          clear hF'
          go_wp2_with (at_builtin; refine app_at rfl _ _ rfl (w.heap.size + 2) (.slice (some ⟨g, 0, none⟩) (k + 1) cp) (L.map iv) (.int .i64 ((m : Int) + 1)) (k + 1) wc.heap.size (by simp [World.setCell]) rfl rfl rfl HO.out HB2.out.sz (by omega) ?_; intro g1 cap1 w1 own1 gr1 al1 bl1 lt1; have kp1 := (row_kept HB2.out.kids HO.out (by decide) gr1).cell (i := p) (by omega); have kz1 := (row_kept HB2.out.kids HO.out (by decide) gr1).frozen p)
          go_roundg (gk - 1)
          case rel =>
            rw [← HV.out] at gr1 al1
            rw [← HKL.out, HL.out] at own1
            rw [← HKL.out, HL.out]
            exact ⟨m + 1, _, by simp, by have := HG.out; omega, by have := HG.out; omega, built_app HB2.out HP.out.symm (by omega) own1 gr1 al1⟩
          case measure => have := HG.out; omega
    · have hm' : ¬ (m : Int) + 1 ≤ (n : Int) := by omega
      have hmn : m = n := by have := HG.out; omega
      subst hmn
      obtain ⟨out, hout, hol, hoe⟩ := out_ex x m (skipped len s)
      have HSeq := hid hout
      have HOE := hid hoe
      have hol' : (out.length : Int) ≤ 1025 := by omega
      have hsb : len ≠ 0 → b < wr.heap.size := fun h => by have := HSB.out h; have := HB.out.since.size; omega
      have hSk : Skips wr ad b off len s := HS.out.since HSB.out HB.out.since
      have H := pre_any wr.heap.size (w.heap.size + 1) m (kidsAt (parOf x) m) ad b off len cap s hlen hsb (by omega) (fun v c h => by have := mem_kids h; omega) (fun v => by have := kids_len (par := parOf x) m v; omega) (out.length + 1) 0 0 out [] [] (.slice none 0 0) (.slice none 0 0) wr (by omega) hout (by omega) (by omega) (by simp; omega) (by simp; omega) (built_kids HB.out) hSk (Nat.le_refl _) ⟨World.ownsRow_nil _ _ _ _, World.ownsRow_nil _ _ _ _, fun g h => (by cases h)⟩
      rw [Int.natCast_zero] at H
      have HPre := hid H
      have HSK := hid hSk
      have HSB2 := hid hsb
      clear H hout hoe hsb hSk
      go_wp2_with fail
      refine HPre.out.mono ?_
      rintro _ w4 ⟨vo, vd, rfl, T4, S4⟩
      obtain ⟨qo, co, rfl, hqo⟩ := ints_open T4.o
      obtain ⟨qd, cd, rfl, hqd⟩ := ints_open T4.d
      rw [List.nil_append] at hqo hqd
      simp only [List.nil_append, List.length_map]
      have HQO := hid hqo
      have HQD := hid hqd
      have HS4 := hid S4
      have HLk := hid (built_links HB.out)
      have n6 : w4.cell? ⟨w.heap.size, 6, none⟩ = some (ptr w.heap.size (kidsAt (parOf x) m 0).head?) := by
        rw [S4.cell (a := ⟨w.heap.size, 6, none⟩) (by have := HB.out.sz; show w.heap.size < wr.heap.size; omega)]
        have := (HLk.out 0 (by omega)).1
        simpa using this
      obtain ⟨q, hq⟩ : ∃ q, q = ((kidsAt (parOf x) m 0).head?).map (fun i => (⟨w.heap.size, i * 18, none⟩ : Addr)) := ⟨_, rfl⟩
      have n6' : w4.cell? ⟨w.heap.size, 6, none⟩ = some (.pointer q) := by rw [hq]; exact n6
      have HQ : Hid (ptr w.heap.size (kidsAt (parOf x) m 0).head? = .pointer q) := hid (by rw [hq]; rfl)
      clear T4 S4 hqo hqd n6 hq
      obtain ⟨j37, hj37⟩ := Option.isSome_iff_exists.1 some37
      have HJ := hid hj37
      have hkk : ∀ v c, c ∈ kidsAt (parOf x) m v → v < c ∧ c ≤ m := fun v c h => by
        have k := mem_kids h
        have := parOf_lt x c k.1
        omega
      have HKK := hid hkk
      have HSt0 : Hid (St ((w4.alloc (.cells #[.pointer q] 27)).alloc (.cells #[.slice (some ⟨w4.heap.size, 0, none⟩) 1 1, .pointer none] 43)) w4.heap.size (w4.heap.size + 1) w.heap.size m (kidsAt (parOf x) m) (nextAt (parOf x) m) (skipped len s) [kidsAt (parOf x) m 0] none out) := by
        refine hid ⟨walk_new w4 w.heap.size _ q HQ.out, ⟨fun c hc => by have := hkk 0 c hc; simp; omega, sib_at m 0, trivial⟩, by simp, fun u hu => (by cases hu), fun _ => ?_, fun u hu => (by cases hu)⟩
        have := Rem.cons (r := []) HSeq.out .nil
        simpa using this
      have ndlt : w.heap.size < w4.heap.size := by have := HB.out.sz; have := HS4.out.size; omega
      clear hj37 hkk HQ
      go_wp2_with fail
      go_loopg [13] (out.length + 1) (fun g i wl => ∃ (j : Nat) (L : List (List Nat)) (last : Option Nat), i = .int .i64 (j : Int) ∧ j + g = out.length + 1 ∧ 1 ≤ g ∧ St wl w4.heap.size (w4.heap.size + 1) w.heap.size m (kidsAt (parOf x) m) (nextAt (parOf x) m) (skipped len s) L last (out.drop j) ∧ KF w4.heap.size (w4.heap.size + 1) w4 wl ∧ w4.heap.size ≤ wl.heap.size)
      case atStart => exact ⟨0, _, none, rfl, by omega, by omega, HSt0.out, kf_new _ _ _, by simp; omega⟩
      case round =>
        obtain ⟨j, L, last, rfl, hg, hg1, hSt, hKF, hsz⟩ := hrel
        have HG2 := hid hg
        have HSt := hid hSt
        have HKF := hid hKF
        have HSr := hid (HS4.out.trans (since_weak (kf_since hKF (by omega)) HS4.out.size))
        have HLr := hid (links_since HLk.out HSr.out (by have := HB.out.sz; omega))
        clear hg hSt hKF HSt0
        by_cases hj : j < out.length
        · obtain ⟨⟨c, d⟩, hcd⟩ : ∃ e, out[j]? = some e := ⟨_, List.getElem?_eq_getElem hj⟩
          have hdrop : out.drop j = (c, d) :: out.drop (j + 1) := by
            rw [List.drop_eq_getElem_cons hj]
            rw [List.getElem?_eq_getElem hj] at hcd
            injection hcd with hcd
            rw [hcd]
          have hj' : (j : Int) < (out.length : Int) := by omega
          have hne1 : out.map Prod.fst ≠ [] := fun e => by simp at e; rw [e] at hj; simp at hj
          have hne2 : out.map Prod.snd ≠ [] := fun e => by simp at e; rw [e] at hj; simp at hj
          obtain ⟨go, hgo, hgol, hgoc⟩ := HQO.out hne1
          obtain ⟨gd, hgd, hgdl, hgdc⟩ := HQD.out hne2
          subst hgo hgd
          have hoj := hgoc j c (by simp [hcd])
          have hdj := hgdc j d (by simp [hcd])
          have hcm := HOE.out c (List.mem_map.2 ⟨(c, d), List.mem_of_getElem? hcd, rfl⟩)
          have hcm' : (c : Int) ≤ (m : Int) := by omega
          clear hgoc hgdc hne1 hne2
          have hSt := HSt.out
          rw [hdrop] at hSt
          have HN := hid (next_any hSt hsz HLr.out ndlt (by omega) (by omega) HKK.out (fun v => sib_at m v))
          clear hSt
          go_wp2_with fail
          refine HN.out.mono ?_
          rintro _ w6 ⟨rfl, kf6, sz6, _, L', W6, G6, len6, r6, t6⟩
          have HKF6 := hid (HKF.out.trans kf6)
          have oc : w6.cell? ⟨go, j, none⟩ = some (.int .i64 (c : Int)) := ((kf_since HKF6.out (by omega)).cell (a := ⟨go, j, none⟩) hgol).trans hoj
          have dc : w6.cell? ⟨gd, j, none⟩ = some (.int .i64 (d : Int)) := ((kf_since HKF6.out (by omega)).cell (a := ⟨gd, j, none⟩) hgdl).trans hdj
          have HW6 := hid W6
          have HG6 := hid G6
          have HR6 := hid r6
          have HT6 := hid t6
          have HSk6 := hid (HSK.out.since HSB2.out (HS4.out.trans (since_weak (kf_since HKF6.out (by omega)) HS4.out.size)))
          clear W6 G6 r6 t6 kf6 hoj hdj HN hcd
          go_wp2_with fail
          rw [run_neq_ptr_same _ _ Yba.underlying27 HJ.out]
          go_wp2_with fail
          refine (skip_any ad b off len cap s c w6 HSk6.out hcm.1 (by omega) hlen).mono ?_
          rintro _ w7 ⟨rfl, rfl⟩
          cases hs : skipped len s c with
          | true =>
            go_wp2_with fail
            refine (wskip_any w4.heap.size (w4.heap.size + 1) w.heap.size (heads L') (some c) w7 HW6.out).mono ?_
            rintro _ w8 ⟨rfl, W8, hw8⟩
            have HKF8 := hid (HKF6.out.grown (row := some (w4.heap.size + 1)) (w2 := w8) (by rw [hw8]; exact grown_set1 _ _ _ _) sz6 (fun k hk => by cases hk; exact Or.inr rfl))
            have sz8 : w4.heap.size ≤ w8.heap.size := by rw [hw8]; simp [World.setCell]; exact sz6
            have HW8 := hid W8
            clear W8 hw8
            go_wp2_with fail
            go_roundg (gk - 1)
            case rel => exact ⟨j + 1, L', none, by simp, by have := HG2.out; omega, by have := HG2.out; omega, ⟨HW8.out, HG6.out, by omega, fun u hu => (by cases hu), fun _ => HR6.out hs, fun u hu => (by cases hu)⟩, HKF8.out, sz8⟩
            case measure => have := HG2.out; omega
          | false =>
            go_wp2_with fail
            go_roundg (gk - 1)
            case rel => exact ⟨j + 1, L', some c, by simp, by have := HG2.out; omega, by have := HG2.out; omega, ⟨HW6.out, HG6.out, by omega, fun u hu => (by cases hu; exact ⟨hcm.2, len6⟩), fun h => (by cases h), fun u hu => (by cases hu; exact HT6.out hs)⟩, HKF6.out, sz6⟩
            case measure => have := HG2.out; omega
        · have hj' : ¬ (j : Int) < (out.length : Int) := by omega
          have hnil : out.drop j = [] := List.drop_eq_nil_of_le (by omega)
          rw [hnil] at HSt
          go_wp2_with fail
          go_loopg [16] 3 (fun g i wl => ∃ (j : Nat) (L : List (List Nat)) (last : Option Nat), i = .int .i64 (j : Int) ∧ j + g = 3 ∧ 1 ≤ g ∧ St wl w4.heap.size (w4.heap.size + 1) w.heap.size m (kidsAt (parOf x) m) (nextAt (parOf x) m) (skipped len s) L last [] ∧ KF w4.heap.size (w4.heap.size + 1) w4 wl ∧ w4.heap.size ≤ wl.heap.size)
          case atStart => exact ⟨0, L, last, rfl, by omega, by omega, HSt.out, HKF.out, hsz⟩
          case round =>
            obtain ⟨j3, L3, last3, rfl, hg3, hg31, hSt3, hKF3, hsz3⟩ := hrel
            have HG3 := hid hg3
            have HKF3 := hid hKF3
            have HN := hid (next_end hSt3 hsz3 (links_since HLk.out (HS4.out.trans (since_weak (kf_since hKF3 (by omega)) HS4.out.size)) (by have := HB.out.sz; omega)) ndlt (by omega) (by omega) HKK.out (fun v => sib_at m v))
            clear hg3 hSt3 hKF3
            by_cases h2 : j3 < 2
            · have h2' : (j3 : Int) < 2 := by omega
              go_wp2_with fail
              refine HN.out.mono ?_
              rintro _ w9 ⟨rfl, kf9, sz9, st9⟩
              have HK9 := hid (HKF3.out.trans kf9)
              have HS9 := hid st9
              clear kf9 st9 HN
              go_wp2_with fail
              go_roundg (gk - 1)
              case rel => exact ⟨j3 + 1, [], none, by simp, by have := HG3.out; omega, by have := HG3.out; omega, HS9.out, HK9.out, sz9⟩
              case measure => have := HG3.out; omega
            · have h2' : ¬ (j3 : Int) < 2 := by omega
              go_wp2_with fail
              go_ret
              exact ⟨rfl, HB.out.since.trans (since_weak (HS4.out.trans (since_weak (kf_since HKF3.out (by omega)) HS4.out.size)) HB.out.since.size)⟩

end Go.Proofs.Ybulkagui
