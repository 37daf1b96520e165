/-
  WALK: zzs1617acontainer.
-/
import Derived.Test.YbulkaglsFmtVal
namespace Go.Proofs.YbulkaglsFmt
open Go.RowKit

theorem hid {p : Prop} (h : p) : Hid p := h

/-- The key of item i. -/
def keyBytes (i : Nat) : List Int := [50, 58, 97 + i / 26, 97 + i % 26]

/-- One item's bytes. -/
def itemBytes (dict : Bool) (x : Nat → Int) (i : Nat) : List Int := (if dict = true then keyBytes i else []) ++ valBytes (x i)

/-- The first i items' bytes, behind the opening byte. -/
def contTo (dict : Bool) (x : Nat → Int) : Nat → List Int
  | 0 => [if dict = true then 100 else 108]
  | i + 1 => contTo dict x i ++ itemBytes dict x i

theorem valBytes_len (x : Int) : (valBytes x).length ≤ 3 := by
  unfold valBytes
  split
  · simp
  · split
    · simp
    · split <;> simp
theorem item_len (dict : Bool) (x : Nat → Int) (i : Nat) : (itemBytes dict x i).length ≤ 7 := by
  have := valBytes_len (x i)
  cases dict <;> simp [itemBytes, keyBytes] <;> omega
theorem contTo_len (dict : Bool) (x : Nat → Int) (i : Nat) : (contTo dict x i).length ≤ 1 + 7 * i := by
  induction i with
  | zero => simp [contTo]
  | succ i ih => have := item_len dict x i; simp [contTo]; omega

theorem contTo_false (x : Nat → Int) (i : Nat) : contTo false x (i + 1) = contTo false x i ++ valBytes (x i) := by simp [contTo, itemBytes]
theorem contTo_true (x : Nat → Int) (i : Nat) : contTo true x (i + 1) = contTo true x i ++ [50, 58, 97 + (i : Int) / 26, 97 + (i : Int) % 26] ++ valBytes (x i) := by simp [contTo, itemBytes, keyBytes]

theorem grown_own {w w1 w2 : World} {n c g : Nat} (h : w.grownBy w1 none) (k : w1.grownBy w2 (Value.slice (some ⟨g, 0, none⟩) n c).ownBlock) (hg : w.heap.size ≤ g) : w.grownBy w2 none :=
  ⟨k.os.trans h.os, k.tape.trans h.tape, k.output.trans h.output, Nat.le_trans h.size k.size, fun i hi hr => (k.block i (Nat.lt_of_lt_of_le hi h.size) (fun e => absurd (show i = g by simpa [Value.ownBlock] using e) (by omega))).trans (h.block i hi hr)⟩

set_option maxRecDepth 100000 in
set_option maxHeartbeats 1000000 in
theorem cont_any (ad : Option Addr) (b off len cap : Nat) (dict : Bool) (x : Nat → Int) (w : World) (hl : len ≤ 600) (had : len ≠ 0 → ad = some ⟨b, off, none⟩)
    (hx : ∀ j, j < len → w.cell? ⟨b, off + j, none⟩ = some (.int .u8 (x j))) (hx2 : ∀ j, j < len → 0 ≤ x j ∧ x j ≤ 255) (hbw : len ≠ 0 → b < w.heap.size) :
    Calls Ybaf.prog 6 #[.slice ad len cap, .bool dict] w fun e w' => ∃ g c, e = .returned (.slice (some ⟨g, 0, none⟩) (contTo dict x len ++ [101]).length c) ∧
      Owns w' w.heap.size (.slice (some ⟨g, 0, none⟩) (contTo dict x len ++ [101]).length c) (contTo dict x len ++ [101]) ∧ w.grownBy w' none ∧ g < w'.heap.size := by
  have HX := hid hx
  have HX2 := hid hx2
  have HAD := hid had
  have HBW := hid hbw
  clear hx hx2 had hbw
  cases dict with
  | false =>
    go_enter Ybaf.func6, Ybaf.ntmps6
    go_wp2_with (at_builtin; refine app_bytes rfl _ _ rfl w.heap.size (.slice none 0 0) [] [108] 1 rfl rfl rfl (by decide) (World.ownsRow_nil _ _ _ _) (Nat.le_refl _) (by decide) (by decide) ?_; intro g0 c0 w1 o0 g1 a1 b0 l1)
    have hgr0 : w.grownBy w1 none := g1
    have O0 : Owns w1 w.heap.size (.slice (some ⟨g0, 0, none⟩) (contTo false x 0).length c0) (contTo false x 0) := o0
    clear g1 a1 o0
    go_loopg [5, 17] len (fun gh v i wl => ∃ m g c : Nat, m + gh = len ∧ i = .int .i64 m ∧ v = .slice (some ⟨g, 0, none⟩) (contTo false x m).length c ∧ Owns wl w.heap.size (.slice (some ⟨g, 0, none⟩) (contTo false x m).length c) (contTo false x m) ∧ w.grownBy wl none ∧ w.heap.size ≤ g)
    case atStart => exact ⟨0, g0, c0, by omega, rfl, rfl, O0, hgr0, b0⟩
    case round =>
      obtain ⟨m, g, c, hm, rfl, rfl, o1, hgr, b1⟩ := hrel
      have HK := hid hm
      clear hm O0 hgr0 b0
      have hbase : w.heap.size ≤ wr.heap.size := hgr.size
      by_cases hml : m < len
      · have hml' : (m : Int) < (len : Int) := by omega
        have hade := HAD.out (by omega)
        subst hade
        have hx1 := HX2.out m hml
        have hel : wr.cell? ⟨b, off + m, none⟩ = some (.int .u8 (x m)) := by
          rw [hgr.cell_far ⟨b, off + m, none⟩ (HBW.out (by omega)) (by simp)]
          exact HX.out m hml
        go_wp2_with fail
        refine (val_any w.heap.size _ _ (x m) wr o1 hbase (by have := contTo_len false x m; omega) hx1.1 hx1.2).mono ?_
        rintro _ w3 ⟨g3, c3, rfl, o3, gr3, a3, b3⟩
        have gr3' : w.grownBy w3 none := grown_own hgr gr3 b1
        have O3 : Owns w3 w.heap.size (.slice (some ⟨g3, 0, none⟩) (contTo false x (m + 1)).length c3) (contTo false x (m + 1)) := by
          rw [contTo_false]
          exact o3
        have HO3 := hid O3
        have HG3 := hid gr3'
        rw [← contTo_false]
        clear O3 o3 gr3 gr3' o1 hgr hel
        go_wp2_with fail
        go_roundg (gk - 1)
        case rel => exact ⟨m + 1, g3, c3, by have := HK.out; omega, by go_num, rfl, HO3.out, HG3.out, b3⟩
        case measure => have := HK.out; omega
      · have hmn : m = len := by have := HK.out; omega
        subst hmn
        have hz : ¬ (m : Int) < (m : Int) := by omega
        have hlen : Hid ((contTo false x m).length + 1 = (contTo false x m ++ [101]).length) := hid (by simp)
        go_wp2_with (at_builtin; refine app_bytes rfl _ _ rfl w.heap.size (.slice (some ⟨g, 0, none⟩) (contTo false x m).length c) (contTo false x m) [101] 1 rfl rfl rfl (by decide) o1 hbase (by have := contTo_len false x m; omega) (by decide) ?_; intro g2 c2 w2 o2 gr2 a2 b2 l2)
        go_ret
        exact ⟨g2, c2, rfl, by rw [hlen.out]; exact o2, grown_own hgr gr2 b1, l2⟩
  | true =>
    go_enter Ybaf.func6, Ybaf.ntmps6
    go_wp2_with (at_builtin; refine app_bytes rfl _ _ rfl w.heap.size (.slice none 0 0) [] [100] 1 rfl rfl rfl (by decide) (World.ownsRow_nil _ _ _ _) (Nat.le_refl _) (by decide) (by decide) ?_; intro g0 c0 w1 o0 g1 a1 b0 l1)
    have hgr0 : w.grownBy w1 none := g1
    have O0 : Owns w1 w.heap.size (.slice (some ⟨g0, 0, none⟩) (contTo true x 0).length c0) (contTo true x 0) := o0
    clear g1 a1 o0
    go_loopg [5, 17] len (fun gh v i wl => ∃ m g c : Nat, m + gh = len ∧ i = .int .i64 m ∧ v = .slice (some ⟨g, 0, none⟩) (contTo true x m).length c ∧ Owns wl w.heap.size (.slice (some ⟨g, 0, none⟩) (contTo true x m).length c) (contTo true x m) ∧ w.grownBy wl none ∧ w.heap.size ≤ g)
    case atStart => exact ⟨0, g0, c0, by omega, rfl, rfl, O0, hgr0, b0⟩
    case round =>
      obtain ⟨m, g, c, hm, rfl, rfl, o1, hgr, b1⟩ := hrel
      have HK := hid hm
      clear hm O0 hgr0 b0
      have hbase : w.heap.size ≤ wr.heap.size := hgr.size
      by_cases hml : m < len
      · have hml' : (m : Int) < (len : Int) := by omega
        have hade := HAD.out (by omega)
        subst hade
        have hx1 := HX2.out m hml
        have hel : wr.cell? ⟨b, off + m, none⟩ = some (.int .u8 (x m)) := by
          rw [hgr.cell_far ⟨b, off + m, none⟩ (HBW.out (by omega)) (by simp)]
          exact HX.out m hml
        have hcl : (contTo true x m).length ≤ 1000000 := by have := contTo_len true x m; omega
        go_wp2_with (at_builtin; (refine app_bytes rfl _ _ rfl w.heap.size (.slice (some ⟨g, 0, none⟩) (contTo true x m).length c) (contTo true x m) [50, 58, 97 + (m : Int) / 26, 97 + (m : Int) % 26] 4 rfl rfl rfl (by decide) o1 hbase hcl (by decide) ?_); intro g2 c2 w2 o2 gr2 a2 b2 l2)
        have o2' : Owns w2 w.heap.size (.slice (some ⟨g2, 0, none⟩) ((contTo true x m).length + 4) c2) (contTo true x m ++ [50, 58, 97 + (m : Int) / 26, 97 + (m : Int) % 26]) := by
          rw [show (contTo true x m).length + 4 = (contTo true x m ++ [50, 58, 97 + (m : Int) / 26, 97 + (m : Int) % 26]).length by simp]
          exact o2
        have hbase2 : w.heap.size ≤ w2.heap.size := by omega
        have hcl2 : (contTo true x m ++ [50, 58, 97 + (m : Int) / 26, 97 + (m : Int) % 26]).length ≤ 100000 := by have := contTo_len true x m; simp; omega
        clear o2
        refine (val_any w.heap.size (.slice (some ⟨g2, 0, none⟩) ((contTo true x m).length + 4) c2) (contTo true x m ++ [50, 58, 97 + (m : Int) / 26, 97 + (m : Int) % 26]) (x m) w2 o2' hbase2 hcl2 hx1.1 hx1.2).mono ?_
        rintro _ w3 ⟨g3, c3, rfl, o3, gr3, a3, b3⟩
        have gr2' : w.grownBy w2 none := grown_own hgr gr2 b1
        have gr3' : w.grownBy w3 none := grown_own gr2' gr3 b2
        have O3 : Owns w3 w.heap.size (.slice (some ⟨g3, 0, none⟩) (contTo true x (m + 1)).length c3) (contTo true x (m + 1)) := by
          rw [contTo_true]
          exact o3
        have HO3 := hid O3
        have HG3 := hid gr3'
        rw [← contTo_true]
        clear O3 o3 gr3 gr3' o1 hgr hel
        go_wp2_with fail
        go_roundg (gk - 1)
        case rel => exact ⟨m + 1, g3, c3, by have := HK.out; omega, by go_num, rfl, HO3.out, HG3.out, b3⟩
        case measure => have := HK.out; omega
      · have hmn : m = len := by have := HK.out; omega
        subst hmn
        have hz : ¬ (m : Int) < (m : Int) := by omega
        have hlen : Hid ((contTo true x m).length + 1 = (contTo true x m ++ [101]).length) := hid (by simp)
        go_wp2_with (at_builtin; refine app_bytes rfl _ _ rfl w.heap.size (.slice (some ⟨g, 0, none⟩) (contTo true x m).length c) (contTo true x m) [101] 1 rfl rfl rfl (by decide) o1 hbase (by have := contTo_len true x m; omega) (by decide) ?_; intro g2 c2 w2 o2 gr2 a2 b2 l2)
        go_ret
        exact ⟨g2, c2, rfl, by rw [hlen.out]; exact o2, grown_own hgr gr2 b1, l2⟩

end Go.Proofs.YbulkaglsFmt
