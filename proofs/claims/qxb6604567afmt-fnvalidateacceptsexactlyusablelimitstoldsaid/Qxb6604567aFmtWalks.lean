import Derived.Test.Qxb6604567aFmtCards
import Derived.Stop.CallBack
import Derived.Stop.IfaceNil
import GoSem.ClaimData
import Derived.KernelRfl
import Derived.WalkKit
import Derived.WalkSpells
import Derived.WalkLawsBesides
import Derived.Below
import Derived.Handy
namespace Go.Proofs.Qxb6604567aFmt
open Go.RowKit Go.Extern.Stop Go.Stop Go.Extern

theorem x_call8 (args : Array Value) (w : World) : (callFunc 8 args).run Tryf.prog w = ((FmtStop.errorf #[9, 31] #[24] args).run Tryf.prog w).andThen fun v w' => .ok (.value v) w' :=
  run_callFunc_extern Tryf.func8 (by kernel_rfl) (by kernel_rfl) (by kernel_rfl) (by kernel_rfl) args w
theorem x_guard (name : String) (w : World) : (FmtStop.guard name).run Tryf.prog w = .ok () w := by kernel_rfl
def shape3 : List UInt8 := [5, 3, 0, 0, 0, 0, 0, 0, 0, 105, 110, 116]
def shape22 : List UInt8 := [11, 7, 0, 0, 0, 0, 0, 0, 0, 102, 108, 111, 97, 116, 54, 52]
theorem x_op3 (name : String) (x : Int) (w : World) : (FmtStop.operand name true 100 false (.iface 3 (.int .i64 x))).run Tryf.prog w = .ok (shape3, Go.Extern.Stop.digits 8 (x % 2 ^ 64).toNat) w := by kernel_rfl
theorem x_op22 (name : String) (x : Nat) (w : World) : (FmtStop.operand name true 118 false (.iface 22 (.float .f64 x))).run Tryf.prog w = .ok (shape22, Go.Extern.Stop.digits 8 x) w := by kernel_rfl
theorem x_ptr (w : World) : (FmtStop.ptrTo "errors.errorString").run Tryf.prog w = .ok 37 w := by kernel_rfl
theorem x_elem (w : World) : (elemOf 37).run Tryf.prog w = .ok 39 w := by kernel_rfl
theorem x_isErr (w : World) : (FmtDoors.textMethod 37 "Error").run Tryf.prog w = .ok true w := by kernel_rfl
/- what each format parses to -/
theorem x_fmt0r (w : World) : (FmtDoors.printed ⟨#[114, 97, 116, 101, 32, 109, 117, 115, 116, 32, 98, 101, 32, 97, 32, 102, 105, 110, 105, 116, 101, 32, 110, 117, 109, 98, 101, 114, 32, 97, 98, 111, 118, 101, 32, 48, 44, 32, 110, 111, 116, 32, 37, 118]⟩ 1).run Tryf.prog w = .ok [(0, 118, false)] w := by kernel_rfl
theorem x_fmt1r (w : World) : (FmtDoors.printed ⟨#[98, 117, 114, 115, 116, 32, 109, 117, 115, 116, 32, 98, 101, 32, 97, 110, 32, 105, 110, 116, 101, 103, 101, 114, 32, 111, 102, 32, 97, 116, 32, 108, 101, 97, 115, 116, 32, 49, 44, 32, 110, 111, 116, 32, 37, 100]⟩ 1).run Tryf.prog w = .ok [(0, 100, false)] w := by kernel_rfl
theorem x_fmt0 : FmtStop.printed? ⟨#[114, 97, 116, 101, 32, 109, 117, 115, 116, 32, 98, 101, 32, 97, 32, 102, 105, 110, 105, 116, 101, 32, 110, 117, 109, 98, 101, 114, 32, 97, 98, 111, 118, 101, 32, 48, 44, 32, 110, 111, 116, 32, 37, 118]⟩ 1 = some [(0, 118, false)] := by kernel_rfl
theorem x_fmt1 : FmtStop.printed? ⟨#[98, 117, 114, 115, 116, 32, 109, 117, 115, 116, 32, 98, 101, 32, 97, 110, 32, 105, 110, 116, 101, 103, 101, 114, 32, 111, 102, 32, 97, 116, 32, 108, 101, 97, 115, 116, 32, 49, 44, 32, 110, 111, 116, 32, 37, 100]⟩ 1 = some [(0, 100, false)] := by kernel_rfl
attribute [local go_sem] x_call8 x_guard x_op3 x_op22 x_ptr x_elem x_isErr x_fmt0r x_fmt1r x_fmt0 x_fmt1

set_option maxHeartbeats 400000 in
theorem walk_rate (F : Interp) (x : Nat) (n : Int) (w : World) (hF : F.answers w.tape) (h0 : (FloatKind.f64.format.order x 0 == some .gt) = false) :
    Calls Tryf.prog 3 #[.float .f64 x, .int .i64 n] w fun e w' => e = .returned (.bool true) ∧ Below w.heap.size w w' := by
  have hF' := answers_open hF
  go_enter Tryf.func3, Tryf.ntmps3
  go_wp2
  go_ret
  exact ⟨rfl, by go_grown⟩
set_option maxHeartbeats 400000 in
theorem walk_inf (F : Interp) (x : Nat) (n : Int) (w : World) (hF : F.answers w.tape) (h0 : (FloatKind.f64.format.order x 0 == some .gt) = true) (h1 : (FloatKind.f64.format.order x 9218868437227405311 == some .gt) = true)
   (h2 : (FloatKind.f64.format.order x 9218868437227405311 == some .lt) = false) (h3 : (FloatKind.f64.format.order x 9218868437227405311 == some .eq) = false) :
    Calls Tryf.prog 3 #[.float .f64 x, .int .i64 n] w fun e w' => e = .returned (.bool true) ∧ Below w.heap.size w w' := by
  have hF' := answers_open hF
  go_enter Tryf.func3, Tryf.ntmps3
  go_wp2
  go_ret
  exact ⟨rfl, by go_grown⟩
set_option maxHeartbeats 400000 in
theorem walk_burst (F : Interp) (x : Nat) (n : Int) (w : World) (hF : F.answers w.tape) (h0 : (FloatKind.f64.format.order x 0 == some .gt) = true) (h1 : (FloatKind.f64.format.order x 9218868437227405311 == some .gt) = false) (hn : n < 1) :
    Calls Tryf.prog 3 #[.float .f64 x, .int .i64 n] w fun e w' => e = .returned (.bool true) ∧ Below w.heap.size w w' := by
  have hd : decide (1 ≤ n) = false := decide_eq_false (by omega)
  have hF' := answers_open hF
  go_enter Tryf.func3, Tryf.ntmps3
  go_wp2
  all_goals (go_ret; exact ⟨rfl, by go_grown⟩)
set_option maxHeartbeats 400000 in
theorem walk_ok (x : Nat) (n : Int) (w : World) (h0 : (FloatKind.f64.format.order x 0 == some .gt) = true) (h1 : (FloatKind.f64.format.order x 9218868437227405311 == some .gt) = false) 
   (h2 : (FloatKind.f64.format.order x 9218868437227405311 == some .lt || FloatKind.f64.format.order x 9218868437227405311 == some .eq) = true) (hn : 1 ≤ n) :
    Calls Tryf.prog 3 #[.float .f64 x, .int .i64 n] w fun e w' => e = .returned (.bool true) ∧ Below w.heap.size w w' := by
  go_enter Tryf.func3, Tryf.ntmps3
  go_wp2
  all_goals (go_ret; exact ⟨rfl, by go_grown⟩)
end Go.Proofs.Qxb6604567aFmt
