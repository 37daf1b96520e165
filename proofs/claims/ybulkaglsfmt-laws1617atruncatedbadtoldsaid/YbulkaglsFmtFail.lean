/-
  The closed facts over fmt's stopped fronts in this dump (after the worked CheckFmt.lean), and the walk of (*Scanner).fail.
-/
import Derived.Test.YbulkaglsFmtBase
import Derived.Stop.CallBack
import Derived.Stop.IfaceNil
import GoSem.ClaimData
namespace Go.Proofs.YbulkaglsFmt
open Go.RowKit Go.Extern.Stop Go.Stop Go.Extern

@[go_sem] theorem Ybaf.call20 (args : Array Value) (w : World) : (callFunc 20 args).run Ybaf.prog w = ((FmtStop.sprintf #[9, 49] #[9] args).run Ybaf.prog w).andThen fun v w' => .ok (.value v) w' :=
  run_callFunc_extern Ybaf.func20 (by kernel_rfl) (by kernel_rfl) (by kernel_rfl) (by kernel_rfl) args w
@[go_sem] theorem Ybaf.call24 (args : Array Value) (w : World) : (callFunc 24 args).run Ybaf.prog w = ((FmtStop.errorf #[9, 49] #[25] args).run Ybaf.prog w).andThen fun v w' => .ok (.value v) w' :=
  run_callFunc_extern Ybaf.func24 (by kernel_rfl) (by kernel_rfl) (by kernel_rfl) (by kernel_rfl) args w
@[go_sem] theorem Ybaf.guard (name : String) (w : World) : (FmtStop.guard name).run Ybaf.prog w = .ok () w := by kernel_rfl
-- "dictionary not closed", 0 operand(s)
@[go_sem] theorem Ybaf.fmt0 : FmtStop.printed? ⟨#[100, 105, 99, 116, 105, 111, 110, 97, 114, 121, 32, 110, 111, 116, 32, 99, 108, 111, 115, 101, 100]⟩ 0 = some [] := by kernel_rfl
@[go_sem] theorem Ybaf.fmt0r (w : World) : (FmtDoors.printed ⟨#[100, 105, 99, 116, 105, 111, 110, 97, 114, 121, 32, 110, 111, 116, 32, 99, 108, 111, 115, 101, 100]⟩ 0).run Ybaf.prog w = .ok [] w := by kernel_rfl
-- "list not closed", 0 operand(s)
@[go_sem] theorem Ybaf.fmt1 : FmtStop.printed? ⟨#[108, 105, 115, 116, 32, 110, 111, 116, 32, 99, 108, 111, 115, 101, 100]⟩ 0 = some [] := by kernel_rfl
@[go_sem] theorem Ybaf.fmt1r (w : World) : (FmtDoors.printed ⟨#[108, 105, 115, 116, 32, 110, 111, 116, 32, 99, 108, 111, 115, 101, 100]⟩ 0).run Ybaf.prog w = .ok [] w := by kernel_rfl
-- "bencode: offset %d: %s", 2 operand(s)
@[go_sem] theorem Ybaf.fmt2 : FmtStop.printed? ⟨#[98, 101, 110, 99, 111, 100, 101, 58, 32, 111, 102, 102, 115, 101, 116, 32, 37, 100, 58, 32, 37, 115]⟩ 2 = some [(0, 100, false), (1, 115, false)] := by kernel_rfl
@[go_sem] theorem Ybaf.fmt2r (w : World) : (FmtDoors.printed ⟨#[98, 101, 110, 99, 111, 100, 101, 58, 32, 111, 102, 102, 115, 101, 116, 32, 37, 100, 58, 32, 37, 115]⟩ 2).run Ybaf.prog w = .ok [(0, 100, false), (1, 115, false)] w := by kernel_rfl
def Ybaf.shape9 : List UInt8 := [12, 6, 0, 0, 0, 0, 0, 0, 0, 115, 116, 114, 105, 110, 103]
@[go_sem] theorem Ybaf.op9_115 (name : String) (x : ByteArray) (w : World) : (FmtStop.operand name false 115 false (.iface 9 (.string x))).run Ybaf.prog w = .ok (Ybaf.shape9, FmtStop.pack x.data.toList) w := by kernel_rfl
@[go_sem] theorem Ybaf.op9_115w (name : String) (x : ByteArray) (w : World) : (FmtStop.operand name true 115 false (.iface 9 (.string x))).run Ybaf.prog w = .ok (Ybaf.shape9, FmtStop.pack x.data.toList) w := by kernel_rfl
def Ybaf.shape3 : List UInt8 := [5, 3, 0, 0, 0, 0, 0, 0, 0, 105, 110, 116]
@[go_sem] theorem Ybaf.op3_100 (name : String) (x : Int) (w : World) : (FmtStop.operand name false 100 false (.iface 3 (.int .i64 x))).run Ybaf.prog w = .ok (Ybaf.shape3, Go.Extern.Stop.digits 8 (x % 2 ^ 64).toNat) w := by kernel_rfl
@[go_sem] theorem Ybaf.op3_100w (name : String) (x : Int) (w : World) : (FmtStop.operand name true 100 false (.iface 3 (.int .i64 x))).run Ybaf.prog w = .ok (Ybaf.shape3, Go.Extern.Stop.digits 8 (x % 2 ^ 64).toNat) w := by kernel_rfl
@[go_sem] theorem Ybaf.ptr65 (w : World) : (FmtStop.ptrTo "errors.errorString").run Ybaf.prog w = .ok 65 w := by kernel_rfl
@[go_sem] theorem Ybaf.elem65 (w : World) : (elemOf 65).run Ybaf.prog w = .ok 67 w := by kernel_rfl
@[go_sem] theorem Ybaf.isError65' (w : World) : (FmtDoors.textMethod 65 "Error").run Ybaf.prog w = .ok true w := by kernel_rfl

set_option maxRecDepth 100000 in
set_option maxHeartbeats 1000000 in
theorem errorf_any (F : Interp) (B : Nat) (p : Int) (s : ByteArray) (w : World) (hF : F.answers w.tape) (b0 : w.cell? ⟨B, 0, none⟩ = some (.iface 3 (.int .i64 p))) (b1 : w.cell? ⟨B, 1, none⟩ = some (.iface 9 (.string s))) :
    Calls Ybaf.prog 19 #[.string ⟨#[98, 101, 110, 99, 111, 100, 101, 58, 32, 111, 102, 102, 115, 101, 116, 32, 37, 100, 58, 32, 37, 115]⟩, .slice (some ⟨B, 0, none⟩) 2 2] w fun e w' => ∃ X, e = .returned (.iface 65 (.pointer (some ⟨w.heap.size, 0, none⟩))) ∧ w' = (w.alloc X).drew := by
  have hF' := answers_open hF
  go_enter Ybaf.func19, Ybaf.ntmps19
  go_wp2
  go_ret
  exact ⟨_, rfl, rfl⟩

theorem cells_new (W : World) (x y : Value) (t : TypeId) : (W.alloc (.cells #[x, y] t)).cell? ⟨W.heap.size, 0, none⟩ = some x ∧ (W.alloc (.cells #[x, y] t)).cell? ⟨W.heap.size, 1, none⟩ = some y := by
  have h := World.rowIs_alloc W #[x, y] t (fun i => [x, y].getD i undef) (fun i hi => by
    have hi' : i < 2 := hi
    match i, hi' with
    | 0, _ => rfl
    | 1, _ => rfl)
  exact ⟨h.cell (show 0 < 2 by decide), h.cell (show 1 < 2 by decide)⟩

theorem errorf_new (F : Interp) (p : Int) (s : ByteArray) (W : World) (B : Nat) (hB : B = W.heap.size) (hF : F.answers W.tape) :
    Calls Ybaf.prog 19 #[.string ⟨#[98, 101, 110, 99, 111, 100, 101, 58, 32, 111, 102, 102, 115, 101, 116, 32, 37, 100, 58, 32, 37, 115]⟩, .slice (some ⟨B, 0, none⟩) 2 2] (W.alloc (.cells #[.iface 3 (.int .i64 p), .iface 9 (.string s)] 20)) fun e w' => ∃ X, e = .returned (.iface 65 (.pointer (some ⟨B + 1, 0, none⟩))) ∧ w' = ((W.alloc (.cells #[.iface 3 (.int .i64 p), .iface 9 (.string s)] 20)).alloc X).drew := by
  subst hB
  obtain ⟨b0, b1⟩ := cells_new W (.iface 3 (.int .i64 p)) (.iface 9 (.string s)) 20
  refine (errorf_any F W.heap.size p s (W.alloc (.cells #[.iface 3 (.int .i64 p), .iface 9 (.string s)] 20)) hF b0 b1).mono ?_
  rintro e w' ⟨X, he, hw⟩
  refine ⟨X, ?_, hw⟩
  rw [he]
  simp

theorem grown_drew3 {w w1 : World} {row : Option Nat} (h : w.grownBy w1 row) : w.grownBy w1.drew.drew.drew row := ⟨h.os, h.tape, h.output, h.size, h.block⟩

theorem keep_fail {w : World} {S : Nat} {p : Int} {f : Nat → Value} {v : Value} {o X : Obj} (hS : SC w S f) (h1 : f 1 = .int .i64 p) : (((w.setCell ⟨S, 2, none⟩ v).alloc o).alloc X).drew.drew.drew.cell? ⟨S, 1, none⟩ = some (.int .i64 p) := by
  have h := ((sc_set hS 2 v).alloc o).alloc X
  have := h.cell (i := 1) (by decide)
  rw [upd_other _ _ _ _ (by decide), h1] at this
  exact this

set_option maxRecDepth 100000 in
set_option maxHeartbeats 2000000 in
/-- fail: an error is laid, the answer is Bad. -/
theorem fail_list (F : Interp) (S p : Nat) (f : Nat → Value) (w : World) (hF : F.answers w.tape) (hS : SC w S f) (h1 : f 1 = .int .i64 p) :
    Calls Ybaf.prog 14 #[.pointer (some ⟨S, 0, none⟩), .string ⟨#[108, 105, 115, 116, 32, 110, 111, 116, 32, 99, 108, 111, 115, 101, 100]⟩, .slice none 0 0] w fun e w' => e = .returned (.int .i64 0) ∧ ∃ a, SC w' S (upd f 2 (.iface 65 (.pointer (some a)))) ∧ w.grownBy w' (some S) := by
  have hF' := answers_open hF
  have c1 : w.cell? ⟨S, 1, none⟩ = some (.int .i64 p) := by rw [hS.cell (by decide), h1]
  have c2 : w.cell? ⟨S, 2, none⟩ = some (f 2) := hS.cell (by decide)
  have z2 := hS.frozen 2
  have hlt := hS.lt
  have hlt1 : S < w.heap.size + 1 := by omega
  have hlt2 : S < w.heap.size + 1 + 1 := by omega
  go_enter Ybaf.func14, Ybaf.ntmps14
  go_wp2_with fail
  go_region_held3 (fun w' => w'.cell? ⟨S, 1, none⟩ = some (.int .i64 p)) (first | (go_keep; done) | exact keep_fail hS h1)
    (first
      | (go_at_call 19; refine (errorf_new F p _ w.drew.drew w.heap.size rfl hF).mono ?_; rintro e w2 ⟨X, rfl, rfl⟩))
  go_wp2_with fail
  go_ret
  exact ⟨rfl, _, ((sc_set hS 2 _).alloc _).alloc _, grown_drew3 (grown_alloc (grown_alloc (grown_set (World.grownBy.refl _ _) 2 _) _) _)⟩

set_option maxRecDepth 100000 in
set_option maxHeartbeats 2000000 in
/-- fail: an error is laid, the answer is Bad. -/
theorem fail_dict (F : Interp) (S p : Nat) (f : Nat → Value) (w : World) (hF : F.answers w.tape) (hS : SC w S f) (h1 : f 1 = .int .i64 p) :
    Calls Ybaf.prog 14 #[.pointer (some ⟨S, 0, none⟩), .string ⟨#[100, 105, 99, 116, 105, 111, 110, 97, 114, 121, 32, 110, 111, 116, 32, 99, 108, 111, 115, 101, 100]⟩, .slice none 0 0] w fun e w' => e = .returned (.int .i64 0) ∧ ∃ a, SC w' S (upd f 2 (.iface 65 (.pointer (some a)))) ∧ w.grownBy w' (some S) := by
  have hF' := answers_open hF
  have c1 : w.cell? ⟨S, 1, none⟩ = some (.int .i64 p) := by rw [hS.cell (by decide), h1]
  have c2 : w.cell? ⟨S, 2, none⟩ = some (f 2) := hS.cell (by decide)
  have z2 := hS.frozen 2
  have hlt := hS.lt
  have hlt1 : S < w.heap.size + 1 := by omega
  have hlt2 : S < w.heap.size + 1 + 1 := by omega
  go_enter Ybaf.func14, Ybaf.ntmps14
  go_wp2_with fail
  go_region_held3 (fun w' => w'.cell? ⟨S, 1, none⟩ = some (.int .i64 p)) (first | (go_keep; done) | exact keep_fail hS h1)
    (first
      | (go_at_call 19; refine (errorf_new F p _ w.drew.drew w.heap.size rfl hF).mono ?_; rintro e w2 ⟨X, rfl, rfl⟩))
  go_wp2_with fail
  go_ret
  exact ⟨rfl, _, ((sc_set hS 2 _).alloc _).alloc _, grown_drew3 (grown_alloc (grown_alloc (grown_set (World.grownBy.refl _ _) 2 _) _) _)⟩

end Go.Proofs.YbulkaglsFmt
