/-
  internal/strconv.ParseUint(s, 16, 8) and strconv.ParseUint(s, 16, 8) at a string of two bytes: no error exactly where both are hex digits.
-/
import Derived.Test.Qxb6603718aDoorPlain
import Derived.Test.Qxb6603718aDoorShelf
import Derived.Test.Qxb6603718aDoorRows
import Derived.Lib.Strings
import Derived.Lib.Walk
import Derived.Lib.ConvBytes
import Derived.Lib.Hide
import Derived.Laws.Strings3
import Derived.Laws.Closers25
import Derived.Laws.Closers25b
import Derived.WalkKit
import Derived.BigCall
import Derived.BigGuard
import Derived.Handy
namespace Go.Proofs.Qxb6603718aDoor
open Go.RowKit

/-- 'lower(c)': c with the bit 32 set. -/
def low (c : Nat) : Int := bits .or .u8 (c : Int) 32

theorem low_facts : ∀ c, c < 256 → (97 ≤ low c ∧ low c ≤ 102 ↔ 97 ≤ c ∧ c ≤ 102 ∨ 65 ≤ c ∧ c ≤ 70) ∧ 0 ≤ low c ∧ low c ≤ 255 := by decide +kernel

theorem lower_any (c : Nat) (w : World) : Calls Tryd.prog 65 #[.int .u8 (c : Int)] w fun e w' => e = .returned (.int .u8 (low c)) ∧ w' = w := by
  go_enter Tryd.func65, Tryd.ntmps65
  go_wp2
  go_ret
  exact ⟨rfl, rfl⟩

/-- The first k of two bytes are hex digits. -/
def okTo (b0 b1 : UInt8) (k : Nat) : Prop := (0 < k → hexB b0.toNat = true) ∧ (1 < k → hexB b1.toNat = true)

/-- What comes of the two bytes. -/
def Out16 (b0 b1 : UInt8) (e : Ending) : Prop :=
  (hexB b0.toNat = true ∧ hexB b1.toNat = true ∧ ∃ n : Int, e = .returned (.tuple #[.int .u64 n, .nilIface])) ∨
  ((hexB b0.toNat && hexB b1.toNat) = false ∧ e = .returned (.tuple #[.int .u64 0, .iface 94 (.int .i64 2)]))

set_option maxHeartbeats 4000000 in
set_option maxRecDepth 100000 in
theorem parse_inner (t : ByteArray) (b0 b1 : UInt8) (ht : t.data.toList = [b0, b1]) (w : World) :
    Calls Tryd.prog 57 #[.string t, .int .i64 16, .int .i64 8] w fun e w' => Out16 b0 b1 e ∧ w' = Lib.bytesWorld w 5 t := by
  have hs : t.size = 2 := by rw [Lib.size_eq, ht]; rfl
  have hemp : t.toList.isEmpty = false := by
    rw [← decide_eq_emptyBytes]
    exact decide_eq_false (fun h => by rw [h] at hs; cases hs)
  have hcv := Lib.run_convert_string_bytes (P := Tryd.prog) w 9 96 5 t (u := .string) Tryd.underlying9 Tryd.underlying96 Tryd.underlying5
  have hB : ∀ j, j < 2 → (Lib.bytesWorld w 5 t).cell? ⟨w.heap.size, j, none⟩ = some (.int .u8 (t.data.toList.getD j 0).toNat) := fun j hj => Lib.bytesWorld_cell w 5 t j (by omega)
  obtain ⟨W1, hW1⟩ : ∃ W1, W1 = Lib.bytesWorld w 5 t := ⟨_, rfl⟩
  rw [← hW1] at hcv hB ⊢
  clear hW1
  rw [hs] at hcv
  rw [ht] at hB
  generalize grownCap w 2 0 5 = cap at hcv
  have hB0 : W1.cell? ⟨w.heap.size, 0, none⟩ = some (.int .u8 (b0.toNat : Int)) := hB 0 (by omega)
  have hB1 : W1.cell? ⟨w.heap.size, 1, none⟩ = some (.int .u8 (b1.toNat : Int)) := hB 1 (by omega)
  clear hB hs ht
  have hmv : IntKind.u64.wrap (IntKind.u64.wrap 256 - 1) = 255 := by
    rw [IntKind.wrap_u64, IntKind.wrap_u64]
    decide
  go_enter Tryd.func57, Tryd.ntmps57
  go_wp2
  go_loop [12, 13, 101] (fun vu vn vi => ∃ (k : Nat) (a : Int), vu = .bool false ∧ vn = .int .u64 a ∧ vi = .int .i64 k ∧ Hid (k = 0 ∧ a = 0 ∨ k = 1 ∧ 0 ≤ a ∧ a ≤ 15 ∧ hexB b0.toNat = true ∨ k = 2 ∧ 0 ≤ a ∧ hexB b0.toNat = true ∧ hexB b1.toNat = true))
    (fun _ _ vi => 2 - (intOf vi).toNat)
  case atStart => exact ⟨0, 0, rfl, rfl, rfl, Or.inl ⟨rfl, rfl⟩⟩
  case round =>
    obtain ⟨k, a, rfl, rfl, rfl, hh⟩ := hrel
    rcases hh.out with ⟨rfl, rfl⟩ | ⟨rfl, a0, a1, hx0⟩ | ⟨rfl, a0, hx0, hx1⟩
    · clear hh hB1
      obtain ⟨c, hn⟩ : ∃ c, c = b0.toNat := ⟨_, rfl⟩
      rw [← hn] at hB0
      have hc256 : c < 256 := by rw [hn]; exact b0.toNat_lt
      obtain ⟨hl, l0, l1⟩ := low_facts c hc256
      by_cases hd : 48 ≤ c ∧ c ≤ 57
      · obtain ⟨d0, d1⟩ := hd
        have hx : Hid (hexB b0.toNat = true) := by rw [← hn]; exact decide_eq_true (Or.inl ⟨d0, d1⟩)
        clear hl l0 l1 hn
        go_wp2
        go_round
        case rel => exact ⟨1, (c : Int) - 48, rfl, rfl, rfl, Or.inr (Or.inl ⟨rfl, by omega, by omega, hx.out⟩)⟩
        case measure => simp [intOf]
      · by_cases hm : 97 ≤ low c ∧ low c ≤ 102
        · have hx : Hid (hexB b0.toNat = true) := by rw [← hn]; exact decide_eq_true (Or.inr (hl.1 hm))
          have H := lower_any c
          have hu : ((c : Int) == 95) = false := by have := hl.1 hm; rw [beq_eq_false_iff_ne]; omega
          clear hl hn
          generalize low c = l at *
          obtain ⟨m0, m1⟩ := hm
          have hd' : ¬ (48 ≤ (c : Int) ∧ (c : Int) ≤ 57) := by omega
          go_wp2_with (go_at_call 65; refine (H _).mono ?_; rintro e w' ⟨rfl, rfl⟩)
          all_goals
            go_round
            case rel => exact ⟨1, l - 97 + 10, rfl, rfl, rfl, Or.inr (Or.inl ⟨rfl, by omega, by omega, hx.out⟩)⟩
            case measure => simp [intOf]
        · have hx : Hid (Out16 b0 b1 (.returned (.tuple #[.int .u64 0, .iface 94 (.int .i64 2)]))) := by
            refine Or.inr ⟨?_, rfl⟩
            have : hexB b0.toNat = false := by rw [← hn]; exact decide_eq_false (fun h => h.elim hd (fun h => hm (hl.2 h)))
            rw [this]; rfl
          by_cases hu95 : c = 95
          · subst hu95
            have H : ∀ w, Calls Tryd.prog 65 #[.int .u8 95] w fun e w' => e = .returned (.int .u8 127) ∧ w' = w := lower_any 95
            clear hl hn hm l0 l1
            go_wp2_with (go_at_call 65; refine (H _).mono ?_; rintro e w' ⟨rfl, rfl⟩)
            all_goals go_ret2
            all_goals exact ⟨hx.out, rfl⟩
          · have hu : ((c : Int) == 95) = false := by rw [beq_eq_false_iff_ne]; omega
            have H := lower_any c
            clear hl hn
            generalize low c = l at *
            have hd' : ¬ (48 ≤ (c : Int) ∧ (c : Int) ≤ 57) := by omega
            go_wp2_with (go_at_call 65; refine (H _).mono ?_; rintro e w' ⟨rfl, rfl⟩)
            all_goals go_ret2
            all_goals exact ⟨hx.out, rfl⟩
    · clear hh hB0
      have Hx0 : Hid (hexB b0.toNat = true) := hx0
      clear hx0
      obtain ⟨c, hn⟩ : ∃ c, c = b1.toNat := ⟨_, rfl⟩
      rw [← hn] at hB1
      have hc256 : c < 256 := by rw [hn]; exact b1.toNat_lt
      obtain ⟨hl, l0, l1⟩ := low_facts c hc256
      by_cases hd : 48 ≤ c ∧ c ≤ 57
      · obtain ⟨d0, d1⟩ := hd
        have hx : Hid (hexB b1.toNat = true) := by rw [← hn]; exact decide_eq_true (Or.inl ⟨d0, d1⟩)
        clear hl l0 l1 hn
        go_wp2
        go_round
        case rel => exact ⟨2, a * 16 + ((c : Int) - 48), rfl, rfl, rfl, Or.inr (Or.inr ⟨rfl, by omega, Hx0.out, hx.out⟩)⟩
        case measure => simp [intOf]
      · by_cases hm : 97 ≤ low c ∧ low c ≤ 102
        · have hx : Hid (hexB b1.toNat = true) := by rw [← hn]; exact decide_eq_true (Or.inr (hl.1 hm))
          have H := lower_any c
          have hu : ((c : Int) == 95) = false := by have := hl.1 hm; rw [beq_eq_false_iff_ne]; omega
          clear hl hn
          generalize low c = l at *
          obtain ⟨m0, m1⟩ := hm
          have hd' : ¬ (48 ≤ (c : Int) ∧ (c : Int) ≤ 57) := by omega
          go_wp2_with (go_at_call 65; refine (H _).mono ?_; rintro e w' ⟨rfl, rfl⟩)
          all_goals
            go_round
            case rel => exact ⟨2, a * 16 + (l - 97 + 10), rfl, rfl, rfl, Or.inr (Or.inr ⟨rfl, by omega, Hx0.out, hx.out⟩)⟩
            case measure => simp [intOf]
        · have hx : Hid (Out16 b0 b1 (.returned (.tuple #[.int .u64 0, .iface 94 (.int .i64 2)]))) := by
            refine Or.inr ⟨?_, rfl⟩
            have : hexB b1.toNat = false := by rw [← hn]; exact decide_eq_false (fun h => h.elim hd (fun h => hm (hl.2 h)))
            rw [this, Bool.and_false]
          by_cases hu95 : c = 95
          · subst hu95
            have H : ∀ w, Calls Tryd.prog 65 #[.int .u8 95] w fun e w' => e = .returned (.int .u8 127) ∧ w' = w := lower_any 95
            clear hl hn hm l0 l1
            go_wp2_with (go_at_call 65; refine (H _).mono ?_; rintro e w' ⟨rfl, rfl⟩)
            all_goals go_ret2
            all_goals exact ⟨hx.out, rfl⟩
          · have hu : ((c : Int) == 95) = false := by rw [beq_eq_false_iff_ne]; omega
            have H := lower_any c
            clear hl hn
            generalize low c = l at *
            have hd' : ¬ (48 ≤ (c : Int) ∧ (c : Int) ≤ 57) := by omega
            go_wp2_with (go_at_call 65; refine (H _).mono ?_; rintro e w' ⟨rfl, rfl⟩)
            all_goals go_ret2
            all_goals exact ⟨hx.out, rfl⟩
    · have hx : Hid (∀ n : Int, Out16 b0 b1 (.returned (.tuple #[.int .u64 n, .nilIface]))) := fun n => Or.inl ⟨hx0, hx1, n, rfl⟩
      clear hh hB0 hB1 hx0 hx1
      go_wp2
      go_ret2
      exact ⟨hx.out _, rfl⟩

end Go.Proofs.Qxb6603718aDoor
