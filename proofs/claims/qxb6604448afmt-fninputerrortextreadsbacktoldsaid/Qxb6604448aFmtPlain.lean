/-
  A decimal numeral read back: no Go in sight.
-/
import Derived.Lib.ItoaNum
namespace Go.Proofs.Qxb6604448aFmt

/-- The number that a row of digits spells. -/
def val (l : List UInt8) : Nat := l.foldl (fun v c => v * 10 + (c.toNat - 48)) 0

theorem val_snoc (l : List UInt8) (c : UInt8) : val (l ++ [c]) = val l * 10 + (c.toNat - 48) := by
  simp [val, List.foldl_append]

theorem digit_toNat (d : Nat) (h : d < 10) : (UInt8.ofNat (48 + d)).toNat = 48 + d := by
  rw [UInt8.toNat_ofNat']
  omega

theorem dec_facts (u : Nat) : (∀ c ∈ Lib.decDigits u, 48 ≤ c.toNat ∧ c.toNat ≤ 57) ∧ val (Lib.decDigits u) = u ∧ 1 ≤ (Lib.decDigits u).length ∧ (1 ≤ u → ∀ c, (Lib.decDigits u)[0]? = some c → c.toNat ≠ 48) := by
  induction u using Nat.strongRecOn with
  | _ u ih =>
    rw [Lib.decDigits]
    by_cases h : u < 10
    · rw [dif_pos h]
      have e := digit_toNat u h
      refine ⟨fun c hc => ?_, ?_, by simp, fun h1 c hc => ?_⟩
      · rw [List.mem_singleton] at hc; subst hc; omega
      · simp [val]; omega
      · have hc' : UInt8.ofNat (48 + u) = c := Option.some.inj hc
        rw [← hc', e]; omega
    · rw [dif_neg h]
      obtain ⟨i1, i2, i3, i4⟩ := ih (u / 10) (by omega)
      have e := digit_toNat (u % 10) (by omega)
      refine ⟨fun c hc => ?_, ?_, by simp, fun h1 c hc => ?_⟩
      · rw [List.mem_append, List.mem_singleton] at hc
        rcases hc with hc | hc
        · exact i1 c hc
        · subst hc; omega
      · rw [val_snoc, i2, e]; omega
      · rw [List.getElem?_append_left (by omega)] at hc
        exact i4 (by omega) c hc

theorem dec_len : ∀ (k u : Nat), u < 10 ^ (k + 1) → (Lib.decDigits u).length ≤ k + 1
  | 0, u, h => by
    rw [Lib.decDigits, dif_pos (by simpa using h)]; simp
  | k + 1, u, h => by
    rw [Lib.decDigits]
    by_cases h1 : u < 10
    · rw [dif_pos h1]; simp
    · rw [dif_neg h1]
      have := dec_len k (u / 10) (by rw [Nat.pow_succ] at h; omega)
      simp
      omega

theorem val_lt (l : List UInt8) (hl : ∀ c ∈ l, 48 ≤ c.toNat ∧ c.toNat ≤ 57) : ∀ k, k ≤ l.length → val (l.take k) < 10 ^ k
  | 0, _ => by simp [val]
  | k + 1, h => by
    have ih := val_lt l hl k (by omega)
    rw [List.take_succ_eq_append_getElem (by omega), val_snoc, Nat.pow_succ]
    have := hl (l[k]'(by omega)) (List.getElem_mem _)
    omega

theorem val_step (l : List UInt8) (k : Nat) (h : k < l.length) : val (l.take (k + 1)) = val (l.take k) * 10 + ((l[k]'h).toNat - 48) := by
  rw [List.take_succ_eq_append_getElem h, val_snoc]

end Go.Proofs.Qxb6604448aFmt
