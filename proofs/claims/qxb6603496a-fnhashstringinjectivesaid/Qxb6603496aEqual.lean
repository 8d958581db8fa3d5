/-
  'b1EqualBytes'; the text of a hash tells the hash.
-/
import Derived.Test.Qxb6603496aDecodes
import Derived.WalkSmall
import Derived.Deep.QuietTactic
import Derived.BigQuiet
namespace Go.Proofs.Qxb6603496a
open Go.RowKit

/-! ### The plain law -/
theorem digit_inj : ∀ a, a < 16 → ∀ b, b < 16 → Lib.Hx.digit a = Lib.Hx.digit b → a = b := by decide

theorem digit_dash : ∀ a, a < 16 → Lib.Hx.digit a ≠ 45 := by decide

theorem encode_inj : ∀ (l m : List UInt8), Lib.Hx.encode l = Lib.Hx.encode m → l = m
  | [], [], _ => rfl
  | [], b :: m, h => by rw [Lib.Hx.encode_cons] at h; cases h
  | a :: l, [], h => by rw [Lib.Hx.encode_cons] at h; cases h
  | a :: l, b :: m, h => by
    rw [Lib.Hx.encode_cons, Lib.Hx.encode_cons] at h
    have ha := a.toNat_lt
    have hb := b.toNat_lt
    obtain ⟨h1, h2⟩ := List.cons.inj h
    obtain ⟨h2, h3⟩ := List.cons.inj h2
    have e1 := digit_inj _ (by omega) _ (by omega) h1
    have e2 := digit_inj _ (by omega) _ (by omega) h2
    have e : a = b := UInt8.toNat_inj.1 (by omega)
    rw [e, encode_inj l m h3]

theorem encode_dash (l : List UInt8) : 45 ∉ Lib.Hx.encode l := by
  induction l with
  | nil => intro h; cases h
  | cons a l ih =>
    rw [Lib.Hx.encode_cons]
    intro h
    have ha := a.toNat_lt
    rcases List.mem_cons.1 h with h | h
    · exact digit_dash _ (by omega) h.symm
    rcases List.mem_cons.1 h with h | h
    · exact digit_dash _ (by omega) h.symm
    · exact ih h

/-- The last dash parts a text. -/
theorem dash_inj : ∀ (a b x y : List UInt8), 45 ∉ x → 45 ∉ y → a ++ 45 :: x = b ++ 45 :: y → a = b ∧ x = y
  | [], [], x, y, _, _, h => ⟨rfl, (List.cons.inj h).2⟩
  | [], c :: b, x, y, hx, _, h => by
    have e := (List.cons.inj h).2
    exact absurd (by rw [e]; exact List.mem_append_right _ List.mem_cons_self) hx
  | c :: a, [], x, y, _, hy, h => by
    have e := (List.cons.inj h).2
    exact absurd (by rw [← e]; exact List.mem_append_right _ List.mem_cons_self) hy
  | c :: a, d :: b, x, y, hx, hy, h => by
    obtain ⟨h1, h2⟩ := List.cons.inj h
    obtain ⟨h3, h4⟩ := dash_inj a b x y hx hy h2
    exact ⟨by rw [h1, h3], h4⟩

theorem txt_inj (f1 f2 : ByteArray) (l1 l2 : List UInt8) (h : txt f1 l1 = txt f2 l2) : f1 = f2 ∧ l1 = l2 := by
  have e := congrArg (fun b : ByteArray => b.data.toList) h
  simp only [txt_list] at e
  obtain ⟨e1, e2⟩ := dash_inj _ _ _ _ (encode_dash l1) (encode_dash l2) e
  exact ⟨ext_of e1, encode_inj _ _ e2⟩

/-- The walk's '==' on two strings. -/
theorem beq_strings (a b : ByteArray) (p : Bool) (h : a = b ↔ p = true) : (a.toList == b.toList) = p := by
  cases p with
  | true => rw [h.2 rfl]; exact beq_self_eq_true _
  | false =>
    rw [beq_eq_false_iff_ne]
    intro e
    rw [Lib.toList_data, Lib.toList_data] at e
    have := h.1 (ext_of e)
    cases this

/-! ### The walk -/
theorem eq_far (a1 a2 : Option Addr) (n1 n2 c1 c2 : Nat) (w : World) (h : n1 ≠ n2) :
    Calls Try.prog 9 #[.slice a1 n1 c1, .slice a2 n2 c2] w fun e w' => e = .returned (.bool false) ∧ w' = w := by
  have hd : ((n1 : Int) != (n2 : Int)) = true := by rw [bne_iff_ne]; omega
  go_enter Try.func9, Try.ntmps9
  go_wp2
  go_ret
  exact ⟨rfl, rfl⟩

theorem eq_none (a1 a2 : Option Addr) (c1 c2 : Nat) (w : World) :
    Calls Try.prog 9 #[.slice a1 0 c1, .slice a2 0 c2] w fun e w' => e = .returned (.bool true) ∧ w' = w := by
  go_enter Try.func9, Try.ntmps9
  go_wp2
  go_loop [5] (fun i => i = .int .i64 0) (fun _ => 0)
  case atStart => rfl
  case round =>
    subst hrel
    go_wp2
    go_ret
    exact ⟨rfl, rfl⟩

set_option maxHeartbeats 1000000 in
theorem eq_near (g1 g2 n : Nat) (l1 l2 : List UInt8) (w : World) (hn : n ≤ 65536) (e1 : l1.length = n) (e2 : l2.length = n)
    (hc1 : ∀ i (h : i < l1.length), w.cell? ⟨g1, i, none⟩ = some (.int .u8 ((l1[i]'h).toNat : Int))) (hc2 : ∀ i (h : i < l2.length), w.cell? ⟨g2, i, none⟩ = some (.int .u8 ((l2[i]'h).toNat : Int))) :
    Calls Try.prog 9 #[.slice (some ⟨g1, 0, none⟩) n n, .slice (some ⟨g2, 0, none⟩) n n] w fun e w' => e = .returned (.bool (decide (l1 = l2))) ∧ Below w.heap.size w w' := by
  have E1 := Lib.hid e1
  have E2 := Lib.hid e2
  have C1 := Lib.hid hc1
  have C2 := Lib.hid hc2
  clear e1 e2 hc1 hc2
  go_enter Try.func9, Try.ntmps9
  go_wp2
  go_loopw [5] (fun i wr => ∃ k : Nat, k ≤ n ∧ i = .int .i64 k ∧ Hid (Below w.heap.size w wr) ∧ Hid (l1.take k = l2.take k)) (fun i _ => n - (intOf i).toNat)
  case atStart => exact ⟨0, Nat.zero_le _, rfl, Below.refl _ _, rfl⟩
  case round =>
    obtain ⟨k, hk, rfl, hb, hp⟩ := hrel
    by_cases hlt : k < n
    · have k1 : k < l1.length := by rw [E1.out]; exact hlt
      have k2 : k < l2.length := by rw [E2.out]; exact hlt
      have q1 : wr.cell? ⟨g1, k, none⟩ = some (.int .u8 (l1[k].toNat : Int)) := (hb.out.cell (World.block_lt_of_cell? _ _ (C1.out k k1))).trans (C1.out k k1)
      have q2 : wr.cell? ⟨g2, k, none⟩ = some (.int .u8 (l2[k].toNat : Int)) := (hb.out.cell (World.block_lt_of_cell? _ _ (C2.out k k2))).trans (C2.out k k2)
      by_cases he : l1[k] = l2[k]
      · have hd : ((l1[k].toNat : Int) != (l2[k].toNat : Int)) = false := by rw [he]; exact bne_self_eq_false _
        have hp' : Hid (l1.take (k + 1) = l2.take (k + 1)) := by
          show _ = _
          rw [List.take_succ_eq_append_getElem k1, List.take_succ_eq_append_getElem k2, hp.out, he]
        clear he hp
        go_wp2
        go_quiet (fail)
        go_wp2
        go_roundw
        case rel => exact ⟨k + 1, by omega, by go_num, below_drewN hb.out _, hp'⟩
        case measure => simp [intOf]; omega
      · have hd : ((l1[k].toNat : Int) != (l2[k].toNat : Int)) = true := by
          rw [bne_iff_ne]
          intro e
          exact he (UInt8.toNat_inj.1 (by omega))
        have hf : Hid (decide (l1 = l2) = false) := decide_eq_false (fun e => he (by subst e; rfl))
        clear he hp
        go_wp2
        go_quiet (fail)
        go_wp2
        go_ret
        exact ⟨by rw [hf.out]; rfl, below_drewN hb.out _⟩
    · have hf : Hid (decide (l1 = l2) = true) := by
        refine decide_eq_true ?_
        have e := hp.out
        rw [List.take_of_length_le (by rw [E1.out]; omega), List.take_of_length_le (by rw [E2.out]; omega)] at e
        exact e
      clear hp
      go_wp2
      go_ret
      exact ⟨by rw [hf.out]; rfl, hb.out⟩

/-- The bytes l lie where the slice begins; of no byte nothing is said. -/
def RowAt (w : World) (a : Option Addr) (l : List UInt8) : Prop := ∀ i (h : i < l.length), ∃ g, a = some ⟨g, 0, none⟩ ∧ w.cell? ⟨g, i, none⟩ = some (.int .u8 ((l[i]'h).toNat : Int))

theorem RowAt.nil (w : World) (a : Option Addr) : RowAt w a [] := fun i h => by cases h

theorem RowAt.cells {w : World} {g : Nat} {l : List UInt8} (h : RowAt w (some ⟨g, 0, none⟩) l) : ∀ i (hi : i < l.length), w.cell? ⟨g, i, none⟩ = some (.int .u8 ((l[i]'hi).toNat : Int)) := fun i hi => by
  obtain ⟨g', e, hc⟩ := h i hi
  cases e
  exact hc

theorem RowAt.keep {w w' : World} {a : Option Addr} {l : List UInt8} (h : RowAt w a l) (hb : Below w.heap.size w w') : RowAt w' a l := fun i hi => by
  obtain ⟨g, e, hc⟩ := h i hi
  exact ⟨g, e, (hb.cell (World.block_lt_of_cell? _ _ hc)).trans hc⟩

theorem eq_any (a1 a2 : Option Addr) (n1 n2 : Nat) (l1 l2 : List UInt8) (w : World) (h1 : n1 ≤ 65536) (e1 : l1.length = n1) (e2 : l2.length = n2) (r1 : RowAt w a1 l1) (r2 : RowAt w a2 l2) :
    Calls Try.prog 9 #[.slice a1 n1 n1, .slice a2 n2 n2] w fun e w' => e = .returned (.bool (decide (l1 = l2))) ∧ Below w.heap.size w w' := by
  by_cases hn : n1 = n2
  · subst hn
    by_cases h0 : n1 = 0
    · subst h0
      have z1 : l1 = [] := List.eq_nil_of_length_eq_zero e1
      have z2 : l2 = [] := List.eq_nil_of_length_eq_zero e2
      subst z1; subst z2
      exact (eq_none a1 a2 0 0 w).mono fun e w' ⟨he, hw⟩ => ⟨he, by rw [hw]; exact Below.refl _ _⟩
    · obtain ⟨g1, rfl, _⟩ := r1 0 (by omega)
      obtain ⟨g2, rfl, _⟩ := r2 0 (by omega)
      exact eq_near g1 g2 n1 l1 l2 w h1 e1 e2 r1.cells r2.cells
  · have hf : decide (l1 = l2) = false := decide_eq_false (fun e => hn (by rw [← e1, ← e2, e]))
    rw [hf]
    exact (eq_far a1 a2 n1 n2 n1 n2 w hn).mono fun e w' ⟨he, hw⟩ => ⟨he, by rw [hw]; exact Below.refl _ _⟩

/-- (config.Hash).String at either make of slice. -/
theorem str_any (fn : ByteArray) (a : Option Addr) (n : Nat) (l : List UInt8) (w : World) (hn : l.length = n) (ha : a = none ∧ n = 0 ∨ ∃ g, a = some ⟨g, 0, none⟩ ∧ g < w.heap.size) (hr : RowAt w a l)
    (hf : fn.size ≤ 65536) (hl : n ≤ 65536) :
    Calls Try.prog 6 #[.agg #[.string fn, .slice a n n]] w fun e w' => e = .returned (.string (txt fn l)) ∧ Below w.heap.size w w' := by
  rcases ha with ⟨rfl, rfl⟩ | ⟨g, rfl, hg⟩
  · have z : l = [] := List.eq_nil_of_length_eq_zero hn
    subst z
    exact str_nil fn w hf
  · exact str_n fn g n l w hn hr.cells hg hf hl

end Go.Proofs.Qxb6603496a
