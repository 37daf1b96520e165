/-
  THE WALK of zzs1633apre.
-/
import Derived.Test.YbulkaguiPlain
namespace Go.Proofs.Ybulkagui
open Go.RowKit Go.Lib

theorem info3 : (Yba.prog.info? 3).map (fun i => (i.zero, i.size, i.bytes)) = some (some (.int .i64 0), 1, 8) := by kernel_rfl

/-- append of one fresh value onto a slice that is owned. -/
theorem app_one {ops : Array Oper} {rest : List Oper} {o : Oper} {a : Act} {w : World} {Q : Exit → Act → World → Prop} (hgd : o.guard = none) (s x : Operand) (t e : TypeId) (ho : o.op = .call { callee := .builtin .append, args := #[s, x], argTypes := #[t, t] })
    (z : Value) (bytes : Nat) (ht : Yba.prog.underlying t = some (.slice e)) (hinfo : (Yba.prog.info? e).map (fun i => (i.zero, i.size, i.bytes)) = some (some z, 1, bytes)) (hz : z.cells.size = 1) (hby : bytes ≤ 16)
    (base : Nat) (v : Value) (xs : List Value) (y : Value) (n : Nat) (hy : y.oneCell' = true) (hs : a.eval s = v) (hx : a.eval x = .slice (some ⟨w.heap.size, 0, none⟩) 1 1) (hown : w.ownsRow base e 1 v n xs) (hb : base ≤ w.heap.size) (hl : n ≤ 1000000)
    (h : ∀ g cap w', w'.ownsRow base e 1 (.slice (some ⟨g, 0, none⟩) (n + 1) cap) (n + 1) (xs ++ [y]) → w.grownBy w' v.ownBlock → (v.ownBlock = some g ∨ w.heap.size ≤ g) → base ≤ g → g < w'.heap.size → wpList Yba.prog ops Q rest (a.put o.dst (.slice (some ⟨g, 0, none⟩) (n + 1) cap)) w') :
    wpList Yba.prog ops Q (o :: rest) a (w.alloc (.cells #[y] e)) := by
  obtain ⟨i0, hi, hz0, hz1, hz2⟩ := info_parts hinfo
  refine wpList_append_lies _ hgd s x t ho base e i0 z 1 bytes ht hi hz0 hz1 hz2 hz (by decide) v n xs hs (hown.alloc _) ⟨w.heap.size, 0, none⟩ 1 1 [y] hx rfl ?_ ?_ (by decide) ?_ ?_ ?_ (w.heap.size + 1) ?_ ?_
  · exact World.news_of_block (cs := #[y]) (heap_alloc_new w _)
  · intro u hu
    rw [List.mem_singleton] at hu
    rw [hu]; exact hy
  · unfold maxLen; omega
  · have : (n + 1) * bytes ≤ 1000001 * 16 := Nat.mul_le_mul (by omega) hby
    omega
  · simp; omega
  · simp
  · intro g cap w' h1 h2 h3 h4
    refine h g cap w' h1 (grown_tr (World.grownBy_alloc w _ _) h2) ?_ ?_ h4
    · rcases h3 with h3 | h3
      · exact Or.inl h3
      · exact Or.inr (by omega)
    · exact (h1.lt g rfl).1

/-- An int. -/
abbrev iv (i : Nat) : Value := .int .i64 (i : Int)

/-- An owned slice of ints. -/
abbrev Ints (w : World) (B : Nat) (v : Value) (xs : List Nat) : Prop := w.ownsRow B 3 1 v xs.length (xs.map iv)

/-- Two owned slices of ints, apart. -/
structure Two (w : World) (B : Nat) (vo vd : Value) (xs ys : List Nat) : Prop where
  o : Ints w B vo xs
  d : Ints w B vd ys
  apart : ∀ g, vo.ownBlock = some g → vd.ownBlock ≠ some g

/-- The table of children in memory, below B. -/
structure KidsM (w : World) (B KB n : Nat) (kids : Nat → List Nat) : Prop where
  lt : KB < B
  cell : ∀ v, v ≤ n → ∃ ad cap, w.cell? ⟨KB, v, none⟩ = some (.slice ad (kids v).length cap) ∧ (kids v ≠ [] → ∃ g, g < B ∧ ad = some ⟨g, 0, none⟩ ∧ ∀ j c, (kids v)[j]? = some c → w.cell? ⟨g, j, none⟩ = some (iv c))

theorem KidsM.since {w w' : World} {B KB n : Nat} {kids : Nat → List Nat} (h : KidsM w B KB n kids) (s : w.Since B w') : KidsM w' B KB n kids := by
  refine ⟨h.lt, fun v hv => ?_⟩
  obtain ⟨ad, cap, h1, h2⟩ := h.cell v hv
  refine ⟨ad, cap, (s.cell h.lt).trans h1, fun hne => ?_⟩
  obtain ⟨g, hg, e, hc⟩ := h2 hne
  exact ⟨g, hg, e, fun j c hj => (s.cell (a := ⟨g, j, none⟩) hg).trans (hc j c hj)⟩

theorem Skips.since {w w' : World} {ad : Option Addr} {b off len B : Nat} {s : Nat → Bool} (h : Skips w ad b off len s) (hb : len ≠ 0 → b < B) (k : w.Since B w') : Skips w' ad b off len s :=
  ⟨h.ad, fun j hj => (k.cell (a := ⟨b, off + j, none⟩) (hb (by omega))).trans (h.cell j hj)⟩

theorem ints_app {w1 : World} {B g cap : Nat} {xs : List Nat} {c : Nat} (h : w1.ownsRow B 3 1 (.slice (some ⟨g, 0, none⟩) (xs.length + 1) cap) (xs.length + 1) (xs.map iv ++ [iv c])) : Ints w1 B (.slice (some ⟨g, 0, none⟩) (xs.length + 1) cap) (xs ++ [c]) := by
  simpa [Ints] using h

theorem ints_kept {w w1 : World} {B : Nat} {v u : Value} {xs : List Nat} (h : Ints w B v xs) (hg : w.grownBy w1 u.ownBlock) (hap : ∀ g, v.ownBlock = some g → u.ownBlock ≠ some g) : Ints w1 B v xs := by
  refine h.kept hg ?_
  cases hv : v.ownBlock with
  | none => exact Or.inl rfl
  | some b => exact Or.inr (fun e => hap b hv e.symm)

theorem since_app {w0 w w1 : World} {B : Nat} {v : Value} {xs : List Nat} (s : w0.Since B w) (hB : B ≤ w.heap.size) (h : Ints w B v xs) (hg : w.grownBy w1 v.ownBlock) : w0.Since B w1 :=
  s.grown hg hB (fun k hk => (h.lt k hk).1)

theorem two_app {wr w1 w2 : World} {B g1 g2 cap1 cap2 c d : Nat} {u4 u5 : Value} {X Y : List Nat} (T : Two wr B u4 u5 X Y) (own1 : w1.ownsRow B 3 1 (.slice (some ⟨g1, 0, none⟩) (X.length + 1) cap1) (X.length + 1) (X.map iv ++ [iv c]))
    (al1 : u4.ownBlock = some g1 ∨ wr.heap.size ≤ g1) (lt1 : g1 < w1.heap.size) (own2 : w2.ownsRow B 3 1 (.slice (some ⟨g2, 0, none⟩) (Y.length + 1) cap2) (Y.length + 1) (Y.map iv ++ [.int .i64 ((d : Int) + 1)])) (gr2 : w1.grownBy w2 u5.ownBlock) (al2 : u5.ownBlock = some g2 ∨ w1.heap.size ≤ g2) :
    Two w2 B (.slice (some ⟨g1, 0, none⟩) (X.length + 1) cap1) (.slice (some ⟨g2, 0, none⟩) (Y.length + 1) cap2) (X ++ [c]) (Y ++ [d + 1]) := by
  have hne : u5.ownBlock ≠ some g1 := by
    intro h
    rcases al1 with h1 | h1
    · exact T.apart g1 h1 h
    · have := (T.d.lt g1 h).2; omega
  refine ⟨ints_kept (ints_app own1) gr2 (fun q hq h5 => ?_), ints_app own2, fun q hq h2 => ?_⟩
  · cases hq
    exact hne h5
  · cases hq
    cases h2
    rcases al2 with h2 | h2
    · exact hne h2
    · omega

set_option maxRecDepth 100000 in
set_option maxHeartbeats 4000000 in
theorem pre_any (B KB n : Nat) (kids : Nat → List Nat) (ad : Option Addr) (b off len cap : Nat) (s : Nat → Bool) (hlen : len ≤ maxLen) (hbB : len ≠ 0 → b < B) (hn : n ≤ 2000) (hk : ∀ v c, c ∈ kids v → 1 ≤ c ∧ c ≤ n) (hkl : ∀ v, (kids v).length ≤ 2000) :
    ∀ (N : Nat) (v d : Nat) (out : List (Nat × Nat)) (xs ys : List Nat) (vo vd : Value) (w : World), out.length < N → Seq kids (skipped len s) (kids v) (d + 1) out → v ≤ n → d + out.length ≤ 100000 → xs.length + out.length ≤ 100000 → ys.length + out.length ≤ 100000 →
      KidsM w B KB n kids → Skips w ad b off len s → B ≤ w.heap.size → Two w B vo vd xs ys →
      Calls Yba.prog 4 #[.slice (some ⟨KB, 0, none⟩) (n + 1) (n + 1), .slice ad len cap, .int .i64 v, .int .i64 d, vo, vd] w fun e w' =>
        ∃ vo' vd', e = .returned (.tuple #[vo', vd']) ∧ Two w' B vo' vd' (xs ++ out.map Prod.fst) (ys ++ out.map Prod.snd) ∧ w.Since B w' := by
  intro N
  induction N with
  | zero => intro v d out xs ys vo vd w h; omega
  | succ N ih =>
    intro v d out xs ys vo vd w hN hseq hv hdl hxl hyl hK hS hB hT
    obtain ⟨ka, kcap, kc, kg⟩ := hK.cell v hv
    have hvn : (v : Int) ≤ (n : Int) := by omega
    have hn' : (n : Int) ≤ 2000 := by omega
    have hkl' : ((kids v).length : Int) ≤ 2000 := by have := hkl v; omega
    have hd' : (d : Int) ≤ 100000 := by omega
    have HSeq := hid hseq
    have HK := hid hK
    have HS := hid hS
    have HT := hid hT
    have HKg := hid kg
    have HIH := hid ih
    clear hseq hK hS hT kg ih
    go_enter Yba.func4, Yba.ntmps4
    go_wp2_with fail
    go_loopg [4, 5, 21] ((kids v).length + 1) (fun g o dv i wl => ∃ (j : Nat) (done rest : List (Nat × Nat)), i = .int .i64 (j : Int) ∧ j + g = (kids v).length + 1 ∧ 1 ≤ g ∧ out = done ++ rest ∧ Seq kids (skipped len s) ((kids v).drop j) (d + 1) rest ∧ Two wl B o dv (xs ++ done.map Prod.fst) (ys ++ done.map Prod.snd) ∧ w.Since B wl)
    case atStart => exact ⟨0, [], out, rfl, by omega, by omega, rfl, HSeq.out, by simpa using HT.out, World.Since.refl _ _⟩
    case round =>
      obtain ⟨j, done, rest, rfl, hg, hg1, hout, hrest, hTw, hSi⟩ := hrel
      have HTw := hid hTw
      have HSi := hid hSi
      have HOut := hid hout
      have HG := hid hg
      clear hTw hSi hout hg HSeq HT
      by_cases hj : j < (kids v).length
      · obtain ⟨c, hc⟩ : ∃ c, (kids v)[j]? = some c := ⟨_, List.getElem?_eq_getElem hj⟩
        have hdrop : (kids v).drop j = c :: (kids v).drop (j + 1) := by
          rw [List.drop_eq_getElem_cons hj]
          rw [List.getElem?_eq_getElem hj] at hc
          injection hc with hc
          rw [hc]
        rw [hdrop] at hrest
        have HR := hid hrest
        have hcn := hk v c (List.mem_of_getElem? hc)
        have hcn' : (c : Int) ≤ (n : Int) := by omega
        obtain ⟨g, hgB, rfl, hcell⟩ := HKg.out (fun e => by rw [e] at hj; simp at hj)
        have ccell : wr.cell? ⟨g, j, none⟩ = some (.int .i64 (c : Int)) := (HSi.out.cell (a := ⟨g, j, none⟩) hgB).trans (hcell j c hc)
        have hj' : (j : Int) < ((kids v).length : Int) := by omega
        have hlen2 : done.length + rest.length = out.length := by have := congrArg List.length HOut.out; simp at this; omega
        obtain ⟨X, hX⟩ : ∃ X, X = xs ++ done.map Prod.fst := ⟨_, rfl⟩
        obtain ⟨Y, hY⟩ : ∃ Y, Y = ys ++ done.map Prod.snd := ⟨_, rfl⟩
        have hlx : X.length + rest.length ≤ 100000 := by rw [hX]; simp; omega
        have hly : Y.length + rest.length ≤ 100000 := by rw [hY]; simp; omega
        rw [← hX, ← hY] at HTw
        have HX := hid hX
        have HY := hid hY
        have szr : B ≤ wr.heap.size := Nat.le_trans hB HSi.out.size
        clear hcell hrest hdrop kc hX hY
        go_wp2_with (first
          | (at_builtin; refine app_one (w := wr) rfl _ _ 26 3 rfl (.int .i64 0) 8 Yba.underlying26 info3 rfl (by decide) B u4 (X.map iv) (iv c) X.length rfl rfl rfl HTw.out.o szr (by omega) ?_; intro g1 cap1 w1 own1 gr1 al1 bl1 lt1; have own5 := ints_kept HTw.out.d gr1 (fun q h5 h4 => HTw.out.apart q h4 h5); have sz1 : B ≤ w1.heap.size := Nat.le_trans szr gr1.size)
          | (at_builtin; refine app_one (w := w1) rfl _ _ 26 3 rfl (.int .i64 0) 8 Yba.underlying26 info3 rfl (by decide) B u5 (Y.map iv) (.int .i64 ((d : Int) + 1)) Y.length rfl rfl rfl own5 sz1 (by omega) ?_; intro g2 cap2 w2 own2 gr2 al2 bl2 lt2))
        have T2 := hid (two_app HTw.out own1 al1 lt1 own2 gr2 al2)
        have S2 := hid (since_app (since_app HSi.out szr HTw.out.o gr1) sz1 own5 gr2)
        have sz2 : B ≤ w2.heap.size := Nat.le_trans sz1 gr2.size
        clear own1 own2 gr1 gr2 al1 al2 lt1 lt2 own5 HTw ccell
        refine (skip_any ad b off len cap s c w2 (HS.out.since hbB S2.out) hcn.1 (by omega) hlen).mono ?_
        rintro _ w' ⟨rfl, rfl⟩
        cases hs : skipped len s c with
        | true =>
          go_wp2_with fail
          go_roundg (gk - 1)
          case rel =>
            have hR := HR.out
            cases hR with
            | into h _ _ => rw [hs] at h; cases h
            | @skip _ _ _ b' h hb' =>
              refine ⟨j + 1, done ++ [(c, d + 1)], b', by simp, by have := HG.out; omega, by have := HG.out; omega, by rw [HOut.out]; simp, hb', ?_, S2.out⟩
              have e1 : xs ++ (done ++ [(c, d + 1)]).map Prod.fst = X ++ [c] := by rw [HX.out]; simp
              have e2 : ys ++ (done ++ [(c, d + 1)]).map Prod.snd = Y ++ [d + 1] := by rw [HY.out]; simp
              rw [e1, e2]
              exact T2.out
          case measure => have := HG.out; omega
        | false =>
          go_wp2_with fail
          have hR := HR.out
          cases hR with
          | skip h _ => rw [hs] at h; cases h
          | @into _ _ _ a' b' h ha' hb' =>
            have H := HIH.out c (d + 1) a' (X ++ [c]) (Y ++ [d + 1]) _ _ w' (by simp at hlen2; omega) ha' hcn.2 (by simp at hlen2; omega) (by simp at hlx ⊢; omega) (by simp at hly ⊢; omega) (HK.out.since S2.out) (HS.out.since hbB S2.out) sz2 T2.out
            rw [Int.natCast_succ] at H
            refine H.mono ?_
            rintro _ w3 ⟨vo3, vd3, rfl, T3, S3⟩
            have HT3 := hid T3
            have HS3 := hid S3
            clear T3 S3 H
            go_wp2_with fail
            go_roundg (gk - 1)
            case rel =>
              refine ⟨j + 1, done ++ ((c, d + 1) :: a'), b', by simp, by have := HG.out; omega, by have := HG.out; omega, by rw [HOut.out]; simp, hb', ?_, S2.out.trans HS3.out⟩
              have e1 : xs ++ (done ++ ((c, d + 1) :: a')).map Prod.fst = X ++ [c] ++ a'.map Prod.fst := by rw [HX.out]; simp
              have e2 : ys ++ (done ++ ((c, d + 1) :: a')).map Prod.snd = Y ++ [d + 1] ++ a'.map Prod.snd := by rw [HY.out]; simp
              rw [e1, e2]
              exact HT3.out
            case measure => have := HG.out; omega
      · have hj' : ¬ (j : Int) < ((kids v).length : Int) := by omega
        have hnil : (kids v).drop j = [] := List.drop_eq_nil_of_le (by omega)
        rw [hnil] at hrest
        go_wp2_with fail
        go_ret2
        cases hrest with
        | nil d' =>
          have := HOut.out
          rw [List.append_nil] at this
          subst this
          exact ⟨_, _, rfl, HTw.out, HSi.out⟩

end Go.Proofs.Ybulkagui
