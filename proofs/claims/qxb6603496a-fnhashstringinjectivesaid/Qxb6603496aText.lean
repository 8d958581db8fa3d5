/-
  (config.Hash).String: the function's name, '-', two hex digits a byte.
-/
import Derived.Test.Qxb6603496aRows
import Derived.Test.Qxb6603496aShelf
import Derived.WalkKit
import Derived.WalkSpells
import Derived.WalkLawsBesides
import Derived.Handy
import Derived.Deep.RegionWith
import Derived.BigRegion
import Derived.Lib.Strings
import Derived.Lib.Hide
namespace Go.Proofs.Qxb6603496a
open Go.RowKit

/-- The text of a hash. -/
def txt (fn : ByteArray) (l : List UInt8) : ByteArray := fn ++ ⟨#[45]⟩ ++ ⟨(Lib.Hx.encode l).toArray⟩

theorem enc_size (l : List UInt8) : (ByteArray.mk (Lib.Hx.encode l).toArray).size = 2 * l.length := by
  rw [Lib.size_eq]
  exact Lib.Hx.encode_length l

set_option maxHeartbeats 800000 in
theorem str_some (fn : ByteArray) (bs os cs : Nat) (l : List UInt8) (w : World) (hsrc : ∀ i (h : i < l.length), w.cell? ⟨bs, os + i, none⟩ = some (.int .u8 ((l[i]'h).toNat : Int))) (hb : bs < w.heap.size)
    (hf : fn.size ≤ 65536) (hl : l.length ≤ 65536) :
    Calls Try.prog 6 #[.agg #[.string fn, .slice (some ⟨bs, os, none⟩) l.length cs]] w fun e w' => e = .returned (.string (txt fn l)) ∧ Below w.heap.size w w' := by
  have hC : ∀ w', Below w.heap.size w w' → Calls Try.prog 10 #[.slice (some ⟨bs, os, none⟩) l.length cs] w' fun e w'' => e = .returned (.string ⟨(Lib.Hx.encode l).toArray⟩) ∧ Below w'.heap.size w' w'' := fun w' h =>
    Try.hex_EncodeToString_bytes bs os cs l w' (fun i hi => (h.cell (p := ⟨bs, os + i, none⟩) hb).trans (hsrc i hi)) (Nat.lt_of_lt_of_le hb h.size) (by omega)
  have es := enc_size l
  unfold txt
  generalize ByteArray.mk (Lib.Hx.encode l).toArray = t at *
  have ht : t.size ≤ 131072 := by omega
  clear es hsrc
  go_enter Try.func6, Try.ntmps6
  go_wp2
  go_region_with (go_at_call 10; refine (hC _ (by go_grown)).mono ?_; rintro e w1 ⟨rfl, hb1⟩; have q0 : w1.cell? ⟨w.heap.size, 0, none⟩ = some (.string fn) := (hb1.cell (p := ⟨w.heap.size, 0, none⟩) (by simp)).trans (by simp))
  all_goals (go_wp2; go_ret; exact ⟨rfl, (((Below.refl _ w).alloc (Nat.le_refl _) _).drew).trans (hb1.mono (by simp))⟩)

set_option maxHeartbeats 800000 in
theorem str_nil (fn : ByteArray) (w : World) (hf : fn.size ≤ 65536) :
    Calls Try.prog 6 #[.agg #[.string fn, .slice none 0 0]] w fun e w' => e = .returned (.string (txt fn [])) ∧ Below w.heap.size w w' := by
  have hC : ∀ w', Calls Try.prog 10 #[.slice none 0 0] w' fun e w'' => e = .returned (.string ⟨#[]⟩) ∧ Below w'.heap.size w' w'' := fun w' => Try.hex_EncodeToString_nil w'
  go_enter Try.func6, Try.ntmps6
  go_wp2
  go_region_with (go_at_call 10; refine (hC _).mono ?_; rintro e w1 ⟨rfl, hb1⟩; have q0 : w1.cell? ⟨w.heap.size, 0, none⟩ = some (.string fn) := (hb1.cell (p := ⟨w.heap.size, 0, none⟩) (by simp)).trans (by simp))
  all_goals (go_wp2; go_ret; exact ⟨rfl, (((Below.refl _ w).alloc (Nat.le_refl _) _).drew).trans (hb1.mono (by simp))⟩)
end Go.Proofs.Qxb6603496a
