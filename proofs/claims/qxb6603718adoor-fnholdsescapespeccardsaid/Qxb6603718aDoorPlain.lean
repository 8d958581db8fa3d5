/-
  The plain law of 'FnHoldsEscapeSpec': a search for '%' and two hex digits answers as the automaton that reads the bytes once. No Go in sight.
-/
namespace Go.Proofs.Qxb6603718aDoor

/-- One of 0..9, a..f, A..F. -/
def hexB (n : Nat) : Bool := decide (48 ≤ n ∧ n ≤ 57 ∨ 97 ≤ n ∧ n ≤ 102 ∨ 65 ≤ n ∧ n ≤ 70)

/-- Do the bytes hold a '%' and then two hex digits? -/
def esc : List UInt8 → Bool
  | a :: b :: c :: r => (a.toNat == 37 && hexB b.toNat && hexB c.toNat) || esc (b :: c :: r)
  | _ => false

/-- The automaton: state 1 after a '%', state 2 after a '%' and one hex digit. -/
def aut : Nat → List UInt8 → Bool
  | _, [] => false
  | st, c :: r =>
    if st == 2 && hexB c.toNat then true
    else if c.toNat == 37 then aut 1 r
    else if st == 1 && hexB c.toNat then aut 2 r
    else aut 0 r

theorem hexB_pct : hexB 37 = false := by decide

theorem esc_skip (a : UInt8) (l : List UInt8) (h : (a.toNat == 37) = false) : esc (a :: l) = esc l := by
  match l with
  | [] => rfl
  | [_] => rfl
  | b :: c :: r => simp [esc, h]

theorem esc_pct (b : UInt8) (l : List UInt8) (h : hexB b.toNat = false) : esc (37 :: b :: l) = esc (b :: l) := by
  match l with
  | [] => rfl
  | c :: r => simp [esc, h]

theorem esc_two (b c : UInt8) (l : List UInt8) (h : hexB c.toNat = false) : esc (37 :: b :: c :: l) = esc (b :: c :: l) := by
  simp [esc, h]

theorem esc_yes (b c : UInt8) (l : List UInt8) (hb : hexB b.toNat = true) (hc : hexB c.toNat = true) : esc (37 :: b :: c :: l) = true := by
  simp [esc, hb, hc]

theorem pct_of (c : UInt8) (h : (c.toNat == 37) = true) : c = 37 := by
  have : c.toNat = 37 := by simpa using h
  exact UInt8.toNat_inj.1 (by rw [this]; rfl)

theorem hex_ne (c : UInt8) (h : hexB c.toNat = true) : (c.toNat == 37) = false := by
  cases e : (c.toNat == 37) with
  | false => rfl
  | true =>
    have : c.toNat = 37 := by simpa using e
    rw [this, hexB_pct] at h
    cases h

theorem aut_esc (l : List UInt8) : aut 0 l = esc l ∧ aut 1 l = esc (37 :: l) ∧ ∀ h : UInt8, hexB h.toNat = true → aut 2 l = esc (37 :: h :: l) := by
  induction l with
  | nil => exact ⟨rfl, rfl, fun _ _ => rfl⟩
  | cons c r ih =>
    obtain ⟨i0, i1, i2⟩ := ih
    cases e : (c.toNat == 37) with
    | true =>
      have hc := pct_of c e
      subst hc
      have hx : hexB (37 : UInt8).toNat = false := by decide
      refine ⟨?_, ?_, fun h hh => ?_⟩
      · simp [aut, i1]
      · rw [esc_pct _ _ hx]; simp [aut, i1]
      · rw [esc_two _ _ _ hx, esc_skip h _ (hex_ne h hh)]
        have : aut 2 (37 :: r) = aut 1 r := by simp [aut, hexB_pct]
        rw [this, i1]
    | false =>
      cases x : hexB c.toNat with
      | true =>
        refine ⟨?_, ?_, fun h hh => ?_⟩
        · rw [esc_skip c r e]; simp [aut, e, i0]
        · have : aut 1 (c :: r) = aut 2 r := by simp [aut, e, x]
          rw [this, i2 c x]
        · rw [esc_yes h c r hh x]; simp [aut, x]
      | false =>
        refine ⟨?_, ?_, fun h hh => ?_⟩
        · rw [esc_skip c r e]; simp [aut, e, i0]
        · rw [esc_pct c r x, esc_skip c r e]; simp [aut, e, x, i0]
        · rw [esc_two h c r x, esc_skip h _ (hex_ne h hh), esc_skip c r e]; simp [aut, e, x, i0]

theorem aut_eq (l : List UInt8) : aut 0 l = esc l := (aut_esc l).1

end Go.Proofs.Qxb6603718aDoor
