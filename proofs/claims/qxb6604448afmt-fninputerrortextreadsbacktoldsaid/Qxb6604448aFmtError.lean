/-
  (*workspace.InputError).Error: its two ways; workspace.ZZinputErrorText.
-/
import Derived.Test.Qxb6604448aFmtCards
import Derived.Stop.CallBack
import Derived.Stop.IfaceNil
import GoSem.ClaimData
import Derived.KernelRfl
import Derived.WalkKit
import Derived.WalkSpells
import Derived.WalkLawsBesides
import Derived.Below
import Derived.Handy
import Derived.Deep.RegionLaw
import Derived.BigRegion
import Derived.Deep.QuietTactic
import Derived.BigQuiet
namespace Go.Proofs.Qxb6604448aFmt
open Go.RowKit Go.Extern.Stop Go.Stop Go.Extern

theorem x_call8 (args : Array Value) (w : World) : (callFunc 8 args).run Tryf.prog w = (FmtCalls.sprintf #[9, 51] #[9] args).run Tryf.prog w :=
  run_callFunc_next Tryf.func8 (by kernel_rfl) (by kernel_rfl) (by kernel_rfl) args w
theorem x_guard (name : String) (w : World) : (FmtStop.guard name).run Tryf.prog w = .ok () w := by kernel_rfl
theorem nextTurns : Extern.next FmtCalls.turnsRow = some (FmtCalls.begun #[] #[]) := by kernel_rfl
theorem nextReturned : Extern.next FmtCalls.returnedRow = some (FmtCalls.returned #[] #[]) := by kernel_rfl
/- the format -/
theorem x_fmt0 : FmtStop.printed? ⟨#[37, 115, 58, 37, 100, 58, 32, 37, 115]⟩ 3 = some [(0, 115, false), (1, 100, false), (2, 115, false)] := by kernel_rfl
theorem x_fmt0r (w : World) : (FmtDoors.printed ⟨#[37, 115, 58, 37, 100, 58, 32, 37, 115]⟩ 3).run Tryf.prog w = .ok [(0, 115, false), (1, 100, false), (2, 115, false)] w := by kernel_rfl
def shape3 : List UInt8 := [5, 3, 0, 0, 0, 0, 0, 0, 0, 105, 110, 116]
def shape9 : List UInt8 := [12, 6, 0, 0, 0, 0, 0, 0, 0, 115, 116, 114, 105, 110, 103]
def name32 : List UInt8 := [42, 101, 114, 114, 111, 114, 115, 46, 101, 114, 114, 111, 114, 83, 116, 114, 105, 110, 103]
def plain32 : List UInt8 := 14 :: FmtStop.pack name32
theorem x_name32 : Tryf.t32.str.toByteArray.data.toList = name32 := by kernel_rfl
theorem x_act9 (name : String) (x : Value) (w : World) : (FmtCalls.act name false 115 false (.iface 9 x)).run Tryf.prog w = .ok (.closed false) w := by kernel_rfl
theorem x_act3 (name : String) (x : Value) (w : World) : (FmtCalls.act name false 100 false (.iface 3 x)).run Tryf.prog w = .ok (.closed false) w := by kernel_rfl
theorem x_act32 (name : String) (x : Value) (w : World) : (FmtCalls.act name false 115 false (.iface 32 x)).run Tryf.prog w = .ok (.closed false) w := by kernel_rfl
theorem x_op9 (name : String) (x : ByteArray) (w : World) : (FmtStop.operand name false 115 false (.iface 9 (.string x))).run Tryf.prog w = .ok (shape9, FmtStop.pack x.data.toList) w := by kernel_rfl
theorem x_op3 (name : String) (x : Int) (w : World) : (FmtStop.operand name false 100 false (.iface 3 (.int .i64 x))).run Tryf.prog w = .ok (shape3, Go.Extern.Stop.digits 8 (x % 2 ^ 64).toNat) w := by kernel_rfl
theorem x_plain (name : String) (a : Addr) (s : ByteArray) (w : World) (hc : w.cell? a = some (.string s)) :
    (FmtStop.operand name false 115 false (.iface 32 (.pointer (some a)))).run Tryf.prog w = .ok (plain32, s.data.toList) w := by
  have h0 : (typeStr 32).run Tryf.prog w = .ok Tryf.t32.str w := by kernel_rfl
  have d2 : Tryf.t32.desc = .pointer 34 := rfl
  have d3 : Tryf.t34.desc = .named "errors.errorString" 33 := rfl
  simp [FmtStop.operand, h0, d2, d3, run_load, hc, plain32, x_name32]
attribute [local go_sem] x_call8 x_guard x_fmt0 x_fmt0r x_act9 x_act3 x_act32 x_op9 x_op3

/-- What fmt is asked: the format; file; line; the error's text. -/
def reading (file : List UInt8) (line : Int) (msg : List UInt8) : List (List UInt8) :=
  [[37, 115, 58, 37, 100, 58, 32, 37, 115], shape9, FmtStop.pack file, shape3, Go.Extern.Stop.digits 8 (line % 18446744073709551616).toNat, plain32, msg]

set_option maxHeartbeats 800000 in
theorem err_line (F : Interp) (b N : Nat) (file msg : ByteArray) (line : Int) (w : World) (hF : F.answers w.tape)
    (c0 : w.cell? ⟨b, 0, none⟩ = some (.string file)) (c1 : w.cell? ⟨b, 1, none⟩ = some (.int .i64 line)) (c2 : w.cell? ⟨b, 2, none⟩ = some (.iface 32 (.pointer (some ⟨N, 0, none⟩))))
    (cN : w.cell? ⟨N, 0, none⟩ = some (.string msg)) (hl : (line == 0) = false) :
    Calls Tryf.prog 7 #[.pointer (some ⟨b, 0, none⟩)] w fun e w' => e = .returned (.string (FmtStop.textOf (F "fmt.Sprintf" (reading file.data.toList line msg.data.toList) 0))) ∧ Below w.heap.size w w' := by
  have hF' := answers_open hF
  have hb : b < w.heap.size := World.block_lt_of_cell? _ _ c0
  have hN : N < w.heap.size := World.block_lt_of_cell? _ _ cN
  go_enter Tryf.func7, Tryf.ntmps7
  have hop := fun w' (hb' : Below w.heap.size w w') => x_plain "fmt.Sprintf" ⟨N, 0, none⟩ msg w' ((hb'.cell (p := ⟨N, 0, none⟩) hN).trans cN)
  have hopA := fun o => hop (w.alloc o).drew ((Below.refl _ _).alloc (Nat.le_refl _) o).drew
  clear hop
  go_wp2
  go_region_law (go_simp; apply rows_value nextTurns; (case hr => (go_simp; exact ⟨rfl, rfl⟩)))
  all_goals (go_wp2; go_ret; exact ⟨rfl, by go_grown⟩)

theorem errText_any (a : Addr) (t : ByteArray) (w : World) (h : w.cell? a = some (.string t)) :
    Calls Tryf.prog 24 #[.pointer (some a)] w fun e w' => e = .returned (.string t) ∧ w' = w := by
  go_enter Tryf.func24, Tryf.ntmps24
  go_wp2
  go_ret
  exact ⟨rfl, rfl⟩

set_option maxHeartbeats 800000 in
theorem err_zero (b N : Nat) (file msg : ByteArray) (w : World) (hfs : file.size ≤ 65536) (hms : msg.size ≤ 65536)
    (c0 : w.cell? ⟨b, 0, none⟩ = some (.string file)) (c1 : w.cell? ⟨b, 1, none⟩ = some (.int .i64 0)) (c2 : w.cell? ⟨b, 2, none⟩ = some (.iface 32 (.pointer (some ⟨N, 0, none⟩))))
    (cN : w.cell? ⟨N, 0, none⟩ = some (.string msg)) :
    Calls Tryf.prog 7 #[.pointer (some ⟨b, 0, none⟩)] w fun e w' => e = .returned (.string (file ++ ⟨#[58, 32]⟩ ++ msg)) ∧ Below w.heap.size w w' := by
  go_enter Tryf.func7, Tryf.ntmps7
  go_wp2
  go_region_with (go_at_call 24; refine (errText_any ⟨N, 0, none⟩ msg _ (by exact cN)).mono ?_; rintro e w' ⟨rfl, rfl⟩)
  all_goals (go_wp2; go_ret; exact ⟨rfl, by go_grown⟩)

theorem text_zero (file msg : ByteArray) (w : World) (hfs : file.size ≤ 65536) (hms : msg.size ≤ 65536) :
    Calls Tryf.prog 5 #[.string file, .int .i64 0, .string msg] w fun e w' => e = .returned (.string (file ++ ⟨#[58, 32]⟩ ++ msg)) ∧ Below w.heap.size w w' := by
  have hC := err_zero (w.heap.size + 1) w.heap.size file msg ((w.alloc (.cells #[.string msg] 34)).alloc (.cells #[.string file, .int .i64 0, .iface 32 (.pointer (some ⟨w.heap.size, 0, none⟩))] 30)) hfs hms (by simp) (by simp) (by simp) (by simp)
  go_enter Tryf.func5, Tryf.ntmps5
  go_wp2_with (first | (go_at_call 7; refine hC.mono ?_; rintro e w1 ⟨rfl, hb1⟩) | go_in)
  go_ret
  exact ⟨rfl, (((Below.refl _ w).alloc (Nat.le_refl _) _).alloc (by simp) _).trans (hb1.mono (by simp; omega))⟩

theorem text_line (F : Interp) (file msg : ByteArray) (line : Int) (w : World) (hF : F.answers w.tape) (hl : (line == 0) = false) :
    Calls Tryf.prog 5 #[.string file, .int .i64 line, .string msg] w fun e w' => e = .returned (.string (FmtStop.textOf (F "fmt.Sprintf" (reading file.data.toList line msg.data.toList) 0))) ∧ Below w.heap.size w w' := by
  have hC := err_line F (w.heap.size + 1) w.heap.size file msg line ((w.alloc (.cells #[.string msg] 34)).alloc (.cells #[.string file, .int .i64 line, .iface 32 (.pointer (some ⟨w.heap.size, 0, none⟩))] 30)) hF (by simp) (by simp) (by simp) (by simp) hl
  go_enter Tryf.func5, Tryf.ntmps5
  go_wp2_with (first | (go_at_call 7; refine hC.mono ?_; rintro e w1 ⟨rfl, hb1⟩) | go_in)
  go_ret
  exact ⟨rfl, (((Below.refl _ w).alloc (Nat.le_refl _) _).alloc (by simp) _).trans (hb1.mono (by simp; omega))⟩

end Go.Proofs.Qxb6604448aFmt
