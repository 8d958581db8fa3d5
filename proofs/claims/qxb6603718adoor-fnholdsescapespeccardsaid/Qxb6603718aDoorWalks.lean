/-
  The walks of 'FnHoldsEscapeSpec': strconv.ParseUint at two bytes, holdsEscape, the automaton, the law.
-/
import Derived.Test.Qxb6603718aDoorParse
import Derived.WalkSpells
namespace Go.Proofs.Qxb6603718aDoor
open Go.RowKit

set_option maxHeartbeats 400000 in
theorem parse_yes (t : ByteArray) (b0 b1 : UInt8) (ht : t.data.toList = [b0, b1]) (hx : (hexB b0.toNat && hexB b1.toNat) = true) (w : World) :
    Calls Tryd.prog 46 #[.string t, .int .i64 16, .int .i64 8] w fun e w' => (∃ n : Int, e = .returned (.tuple #[.int .u64 n, .nilIface])) ∧ Below w.heap.size w w' := by
  have hI : Calls Tryd.prog 57 #[.string t, .int .i64 16, .int .i64 8] w fun e w' => (∃ n : Int, e = .returned (.tuple #[.int .u64 n, .nilIface])) ∧ Below w.heap.size w w' := by
    refine (parse_inner t b0 b1 ht w).mono ?_
    rintro e w' ⟨h, rfl⟩
    refine ⟨?_, Lib.bytesWorld_below _ _ _⟩
    rcases h with ⟨_, _, n, rfl⟩ | ⟨h, _⟩
    · exact ⟨n, rfl⟩
    · rw [hx] at h; cases h
  clear hx ht
  go_enter Tryd.func46, Tryd.ntmps46
  go_wp2_with (go_at_call 57; refine hI.mono ?_; rintro e w1 ⟨⟨n, rfl⟩, hb⟩)
  go_ret2
  exact ⟨⟨n, rfl⟩, hb⟩

set_option maxHeartbeats 400000 in
theorem parse_no (t : ByteArray) (b0 b1 : UInt8) (ht : t.data.toList = [b0, b1]) (hx : (hexB b0.toNat && hexB b1.toNat) = false) (tp : TypeId) (pv : Value) (w : World) (hv : w.cell? ⟨6, 0, none⟩ = some (.iface tp pv)) :
    Calls Tryd.prog 46 #[.string t, .int .i64 16, .int .i64 8] w fun e w' => (∃ N : Nat, e = .returned (.tuple #[.int .u64 0, .iface 97 (.pointer (some ⟨N, 0, none⟩))])) ∧ Below w.heap.size w w' := by
  have hsz : t.size = 2 := by rw [Lib.size_eq, ht]; rfl
  have hlim : t.size ≤ 281474976710656 := by omega
  have hI : Calls Tryd.prog 57 #[.string t, .int .i64 16, .int .i64 8] w fun e w' => e = .returned (.tuple #[.int .u64 0, .iface 94 (.int .i64 2)]) ∧ Below w.heap.size w w' := by
    refine (parse_inner t b0 b1 ht w).mono ?_
    rintro e w' ⟨h, rfl⟩
    refine ⟨?_, Lib.bytesWorld_below _ _ _⟩
    rcases h with ⟨h0, h1, _⟩ | ⟨_, h⟩
    · rw [h0, h1] at hx; cases hx
    · exact h
  clear hx ht hsz
  have hG : 6 < w.heap.size := Lib.lt_of_cell hv
  go_enter Tryd.func46, Tryd.ntmps46
  go_wp2_with (go_at_call 57; refine hI.mono ?_; rintro e W1 ⟨rfl, hb1⟩)
  have hv1 : W1.cell? ⟨6, 0, none⟩ = some (.iface tp pv) := (hb1.cell (show (⟨6, 0, none⟩ : Addr).block < w.heap.size from hG)).trans hv
  go_wp2_with (go_at_call 58; refine (Tryd.strconv_toError_syntax _ t 16 8 (.iface tp pv) W1 hlim hv1 (Or.inr ⟨_, _, rfl⟩)).mono ?_)
  rintro e W2 ⟨N, rfl, h1, h2, h3⟩
  clear h2
  go_wp2
  go_ret2
  exact ⟨⟨N, rfl⟩, hb1.trans (h3.mono hb1.size)⟩

theorem drop_at (s : ByteArray) (k : Nat) (h : k < s.size) : s.data.toList.drop k = s[k] :: s.data.toList.drop (k + 1) := by
  rw [List.drop_eq_getElem_cons (by simpa using h)]; rfl

theorem esc_short (s : ByteArray) (k : Nat) (h : s.size ≤ k + 2) : esc (s.data.toList.drop k) = false := by
  have hl : (s.data.toList.drop k).length ≤ 2 := by rw [List.length_drop, ← Lib.size_eq]; omega
  match h2 : s.data.toList.drop k with
  | [] => rfl
  | [_] => rfl
  | [_, _] => rfl
  | _ :: _ :: _ :: _ => rw [h2] at hl; simp at hl

set_option maxHeartbeats 1000000 in
theorem holds_any (s : ByteArray) (tp : TypeId) (pv : Value) (w : World) (hs : s.size ≤ 1048576) (hv : w.cell? ⟨6, 0, none⟩ = some (.iface tp pv)) :
    Calls Tryd.prog 31 #[.string s] w fun e w' => e = .returned (.bool (esc s.data.toList)) ∧ Below w.heap.size w w' := by
  have hG : 6 < w.heap.size := Lib.lt_of_cell hv
  go_enter Tryd.func31, Tryd.ntmps31
  go_wp2
  go_loopw [3] (fun i wr => ∃ k : Nat, i = .int .i64 k ∧ k ≤ s.size ∧ Hid (esc s.data.toList = esc (s.data.toList.drop k)) ∧ Hid (Below w.heap.size w wr))
    (fun i _ => s.size - (intOf i).toNat)
  case atStart => exact ⟨0, rfl, Nat.zero_le _, rfl, Below.refl _ _⟩
  case round =>
    obtain ⟨k, rfl, hk, he, hb⟩ := hrel
    by_cases hlt : k + 2 < s.size
    · have h0 : k < s.size := by omega
      have h1 : k + 1 < s.size := by omega
      by_cases hp : s[k].toNat = 37
      · have hp' : ((s[k].toNat : Int) != 37) = false := by rw [hp]; rfl
        have h2 : k + 2 < s.size := by omega
        have ht : (s.extract (k + 1) (k + 3)).data.toList = [s[k + 1], s[k + 2]] := by
          rw [Lib.extract_data, show k + 3 - (k + 1) = 2 from by omega, drop_at s (k + 1) h1, drop_at s (k + 2) h2]; rfl
        have hpc : s[k] = 37 := pct_of _ (by rw [beq_iff_eq]; exact hp)
        have hdr : s.data.toList.drop k = 37 :: s[k + 1] :: s[k + 2] :: s.data.toList.drop (k + 3) := by
          rw [drop_at s k h0, drop_at s (k + 1) h1, drop_at s (k + 2) h2, hpc]
        have hdr1 : s.data.toList.drop (k + 1) = s[k + 1] :: s[k + 2] :: s.data.toList.drop (k + 3) := by
          rw [drop_at s (k + 1) h1, drop_at s (k + 2) h2]
        have hv1 : wr.cell? ⟨6, 0, none⟩ = some (.iface tp pv) := (hb.out.cell (show (⟨6, 0, none⟩ : Addr).block < w.heap.size from hG)).trans hv
        cases hx : (hexB s[k + 1].toNat && hexB s[k + 2].toNat) with
        | true =>
          have hC := parse_yes _ _ _ ht hx wr
          have hf : Hid (esc s.data.toList = true) := by
            have h := he.out
            obtain ⟨x1, x2⟩ := Bool.and_eq_true_iff.1 hx
            rw [hdr, esc_yes _ _ _ x1 x2] at h
            exact h
          clear he hp hpc hdr hdr1 hx ht hv1
          go_wp2_with (go_at_call 46; refine hC.mono ?_; rintro e w1 ⟨⟨n, rfl⟩, hb1⟩)
          go_ret
          exact ⟨by rw [hf.out]; rfl, hb.out.trans (hb1.mono hb.out.size)⟩
        | false =>
          have hC := parse_no _ _ _ ht hx tp pv wr hv1
          have hn : Hid (esc s.data.toList = esc (s.data.toList.drop (k + 1))) := by
            have h := he.out
            rw [hdr] at h
            rw [hdr1, h]
            cases x1 : hexB s[k + 1].toNat with
            | false => exact esc_pct _ _ x1
            | true => exact esc_two _ _ _ (by rw [x1] at hx; simpa using hx)
          clear he hp hpc hdr hdr1 hx ht hv1
          go_wp2_with (go_at_call 46; refine hC.mono ?_; rintro e w1 ⟨⟨N, rfl⟩, hb1⟩)
          go_roundw
          case rel => exact ⟨k + 1, by go_num, by omega, hn, hb.out.trans (hb1.mono hb.out.size)⟩
          case measure => simp [intOf]; omega
      · have hp' : ((s[k].toNat : Int) != 37) = true := by rw [bne_iff_ne]; omega
        have hn : Hid (esc s.data.toList = esc (s.data.toList.drop (k + 1))) := by
          have h := he.out
          rw [drop_at s k h0, esc_skip _ _ (by rw [beq_eq_false_iff_ne]; exact hp)] at h
          exact h
        clear he hp
        go_wp2
        go_roundw
        case rel => exact ⟨k + 1, by go_num, by omega, hn, hb⟩
        case measure => simp [intOf]; omega
    · have hf : Hid (esc s.data.toList = false) := he.out.trans (esc_short s k (by omega))
      clear he
      go_wp2
      go_ret
      exact ⟨by rw [hf.out]; rfl, hb⟩

theorem zz_any (s : ByteArray) (tp : TypeId) (pv : Value) (w : World) (hs : s.size ≤ 1048576) (hv : w.cell? ⟨6, 0, none⟩ = some (.iface tp pv)) :
    Calls Tryd.prog 20 #[.string s] w fun e w' => e = .returned (.bool (esc s.data.toList)) ∧ Below w.heap.size w w' := by
  have hC := holds_any s tp pv w hs hv
  go_enter Tryd.func20, Tryd.ntmps20
  go_wp2_with (go_at_call 31; refine hC.mono ?_; rintro e w1 ⟨rfl, hb1⟩)
  go_ret
  exact ⟨rfl, hb1⟩

theorem ret_bool {a b : Bool} (h : a = b) : Ending.returned (.bool a) = .returned (.bool b) := by rw [h]

/-- 'accB1IsHex' -/
theorem ishex_any (c : UInt8) (w : World) :
    Calls Tryd.prog 32 #[.int .u8 (c.toNat : Int)] w fun e w' => e = .returned (.bool (hexB c.toNat)) ∧ w' = w := by
  have hc := c.toNat_lt
  obtain ⟨b, hb⟩ : ∃ b, b = hexB c.toNat := ⟨_, rfl⟩
  rw [← hb]
  unfold hexB at hb
  generalize c.toNat = n at *
  have hb' : Hid (b = decide (48 ≤ n ∧ n ≤ 57 ∨ 97 ≤ n ∧ n ≤ 102 ∨ 65 ≤ n ∧ n ≤ 70)) := hb
  clear hb
  go_enter Tryd.func32, Tryd.ntmps32
  go_wp2
  all_goals go_ret
  all_goals exact ⟨ret_bool (by rw [hb'.out, Bool.eq_iff_iff]; simp only [Bool.or_eq_true, decide_eq_true_iff, Bool.false_eq_true, true_iff, false_iff]; omega), rfl⟩

theorem aut_cons (st : Nat) (c : UInt8) (r : List UInt8) : aut st (c :: r) = if st == 2 && hexB c.toNat then true
    else if c.toNat == 37 then aut 1 r
    else if st == 1 && hexB c.toNat then aut 2 r
    else aut 0 r := rfl

set_option maxHeartbeats 1000000 in
theorem model_any (s : ByteArray) (w : World) (hs : s.size ≤ 1048576) :
    Calls Tryd.prog 21 #[.string s] w fun e w' => e = .returned (.bool (esc s.data.toList)) ∧ w' = w := by
  rw [← aut_eq]
  go_enter Tryd.func21, Tryd.ntmps21
  go_wp2
  go_loop [3, 4] (fun a i => ∃ k st : Nat, a = .int .i64 st ∧ i = .int .i64 k ∧ k ≤ s.size ∧ Hid ((st = 0 ∨ st = 1 ∨ st = 2) ∧ aut 0 s.data.toList = aut st (s.data.toList.drop k)))
    (fun _ i => s.size - (intOf i).toNat)
  case atStart => exact ⟨0, 0, rfl, rfl, Nat.zero_le _, Or.inl rfl, rfl⟩
  case round =>
    obtain ⟨k, st, rfl, rfl, hk, hh⟩ := hrel
    by_cases hlt : k < s.size
    · obtain ⟨hst, he⟩ := hh.out
      clear hh
      rw [drop_at s k hlt, aut_cons] at he
      have hC := ishex_any s[k]
      generalize hexB s[k].toNat = hx at *
      by_cases hp : s[k].toNat = 37
      · have hp' : ((s[k].toNat : Int) == 37) = true := by rw [hp]; rfl
        have hp2 : (s[k].toNat == 37) = true := by rw [hp]; rfl
        rw [hp2] at he
        rcases hst with rfl | rfl | rfl <;> cases hx
        all_goals simp only [Bool.and_true, Bool.and_false, Nat.reduceBEq, if_true, if_false, Bool.false_eq_true] at he
        all_goals have He := Lib.hid he
        all_goals clear he hp hp2
        all_goals go_wp2_with (go_at_call 32; refine (hC _).mono ?_; rintro e w' ⟨rfl, rfl⟩)
        all_goals
          first
          | exact ⟨⟨k + 1, 0, rfl, by go_num, by omega, Or.inl rfl, He.out⟩, by simp [intOf]; omega⟩
          | exact ⟨⟨k + 1, 1, rfl, by go_num, by omega, Or.inr (Or.inl rfl), He.out⟩, by simp [intOf]; omega⟩
          | exact ⟨⟨k + 1, 2, rfl, by go_num, by omega, Or.inr (Or.inr rfl), He.out⟩, by simp [intOf]; omega⟩
          | (go_ret; exact ⟨ret_bool He.out.symm, rfl⟩)
      · have hp' : ((s[k].toNat : Int) == 37) = false := by rw [beq_eq_false_iff_ne]; omega
        have hp2 : (s[k].toNat == 37) = false := by rw [beq_eq_false_iff_ne]; exact hp
        rw [hp2] at he
        rcases hst with rfl | rfl | rfl <;> cases hx
        all_goals simp only [Bool.and_true, Bool.and_false, Nat.reduceBEq, if_true, if_false, Bool.false_eq_true] at he
        all_goals have He := Lib.hid he
        all_goals clear he hp hp2
        all_goals go_wp2_with (go_at_call 32; refine (hC _).mono ?_; rintro e w' ⟨rfl, rfl⟩)
        all_goals
          first
          | exact ⟨⟨k + 1, 0, rfl, by go_num, by omega, Or.inl rfl, He.out⟩, by simp [intOf]; omega⟩
          | exact ⟨⟨k + 1, 1, rfl, by go_num, by omega, Or.inr (Or.inl rfl), He.out⟩, by simp [intOf]; omega⟩
          | exact ⟨⟨k + 1, 2, rfl, by go_num, by omega, Or.inr (Or.inr rfl), He.out⟩, by simp [intOf]; omega⟩
          | (go_ret; exact ⟨ret_bool He.out.symm, rfl⟩)
    · have hf : Hid (aut 0 s.data.toList = false) := by
        rw [hh.out.2, List.drop_eq_nil_of_le (by rw [← Lib.size_eq]; omega)]
        rfl
      clear hh
      go_wp2
      go_ret
      exact ⟨by rw [hf.out]; rfl, rfl⟩

set_option maxHeartbeats 400000 in
/-- THE LAW's WALK. -/
theorem law_any (s : ByteArray) (tp : TypeId) (pv : Value) (w : World) (hm : s.size ≤ maxLen) (hv : w.cell? ⟨6, 0, none⟩ = some (.iface tp pv)) :
    Calls Tryd.prog 5 #[.string s] w fun e w' => e = .returned (.bool true) ∧ Below w.heap.size w w' := by
  unfold maxLen at hm
  by_cases hs : s.size ≤ 1048576
  · have hC := zz_any s tp pv w hs hv
    have hM := fun w => model_any s w hs
    generalize esc s.data.toList = x at *
    go_enter Tryd.func5, Tryd.ntmps5
    go_wp2_with (first | (go_at_call 20; refine hC.mono ?_; rintro e w1 ⟨rfl, hb1⟩) | (go_at_call 21; refine (hM _).mono ?_; rintro e w2 ⟨rfl, rfl⟩) | go_in)
    go_ret
    exact ⟨ret_bool (by simp), hb1⟩
  · go_enter Tryd.func5, Tryd.ntmps5
    go_wp2
    go_ret
    exact ⟨rfl, Below.refl _ _⟩

end Go.Proofs.Qxb6603718aDoor
