/-
  The law at lines that are zero and positive; what the law cuts out of the text.
-/
import Derived.Test.Qxb6604448aFmtError
import Derived.Test.Qxb6604448aFmtPlain
import Derived.Lib.Strings
import Derived.Lib.Hide
namespace Go.Proofs.Qxb6604448aFmt
open Go.RowKit Go.Extern.Stop Go.Stop Go.Extern

theorem ext_of {a b : ByteArray} (h : a.data.toList = b.data.toList) : a = b := by
  obtain ⟨⟨l⟩⟩ := a
  obtain ⟨⟨m⟩⟩ := b
  cases h
  rfl

/-- What the law cuts out of a text 'file', ':', R. -/
theorem cut_facts (g file r : ByteArray) (hg : g.data.toList = file.data.toList ++ 58 :: r.data.toList) :
    g.size = file.size + 1 + r.size ∧ g.extract 0 file.size = file ∧ g.extract (file.size + 1) g.size = r ∧ ∀ h : file.size < g.size, g[file.size].toNat = 58 := by
  have hs : g.size = file.size + 1 + r.size := by
    have e := congrArg List.length hg
    simp only [List.length_append, List.length_cons] at e
    rw [Lib.size_eq, Lib.size_eq file, Lib.size_eq r]
    omega
  refine ⟨hs, ext_of ?_, ext_of ?_, fun h => ?_⟩
  · rw [Lib.extract_data, hg, List.drop_zero, Nat.sub_zero, Lib.size_eq]
    exact List.take_left
  · rw [Lib.extract_data, hg, hs, Lib.size_eq file]
    rw [show file.data.toList.length + 1 = (file.data.toList ++ [58]).length from by simp, show file.data.toList ++ 58 :: r.data.toList = (file.data.toList ++ [58]) ++ r.data.toList from by simp, List.drop_left]
    rw [List.take_of_length_le]
    rw [Lib.size_eq r]
    simp
  · have e2 : g.data.toList[file.size]? = some 58 := by
      rw [hg, Lib.size_eq, List.getElem?_append_right (Nat.le_refl _), Nat.sub_self]
      rfl
    rw [List.getElem?_eq_getElem (by rw [← Lib.size_eq]; exact h)] at e2
    have e3 : g[file.size] = 58 := Option.some.inj e2
    rw [e3]
    rfl

set_option maxHeartbeats 1000000 in
set_option maxRecDepth 100000 in
theorem law_zero (file msg : ByteArray) (w : World) (hfs : file.size ≤ 65536) (hms : msg.size ≤ 65536) :
    Calls Tryf.prog 3 #[.string file, .int .i64 0, .string msg] w fun e w' => e = .returned (.bool true) ∧ Below w.heap.size w w' := by
  have hT := text_zero file msg w hfs hms
  obtain ⟨g, hg⟩ : ∃ g, g = file ++ ⟨#[58, 32]⟩ ++ msg := ⟨_, rfl⟩
  rw [← hg] at hT
  obtain ⟨r, hr⟩ : ∃ r : ByteArray, r.data.toList = 32 :: msg.data.toList := ⟨⟨(32 :: msg.data.toList).toArray⟩, by simp⟩
  obtain ⟨hgs, hx, hy, hc⟩ := cut_facts g file r (by rw [hg, hr]; simp)
  have hrs : r.size = msg.size + 1 := by rw [Lib.size_eq, hr, Lib.size_eq msg]; rfl
  have hgl : file.size < g.size := by omega
  have hc' : ((g[file.size].toNat : Int) != 58) = false := by rw [hc hgl]; rfl
  have hz : r.extract 1 r.size = msg := ext_of (by rw [Lib.extract_data, hr, hrs, List.drop_succ_cons, List.drop_zero, List.take_of_length_le (by rw [← Lib.size_eq]; omega)])
  have hr0 : 0 < r.size := by omega
  have hr1 : ((r[0].toNat : Int) == 32) = true := by
    have e : r[0] = r.data.toList[0]'(by rw [← Lib.size_eq]; exact hr0) := rfl
    rw [e]
    simp only [hr]
    rfl
  have g1 : file.size + 1 ≤ g.size := by omega
  have g2 : g.size ≤ 131074 := by omega
  clear hgs hg hr hc hrs
  go_enter Tryf.func3, Tryf.ntmps3
  go_wp2_with (first | go_in)
  go_loop [7] (fun i => ∃ k : Nat, k ≤ file.size ∧ i = .int .i64 k) (fun i => file.size - (intOf i).toNat)
  case atStart => exact ⟨0, Nat.zero_le _, rfl⟩
  case round =>
    obtain ⟨k, hk, rfl⟩ := hrel
    by_cases hlt : k < file.size
    · go_wp2
      · go_ret
        exact ⟨rfl, Below.refl _ _⟩
      · go_round
        case rel => exact ⟨k + 1, by omega, by go_num⟩
        case measure => simp [intOf]; omega
    · go_wp2_with (first | (go_at_call 5; refine hT.mono ?_; rintro e w1 ⟨rfl, hb1⟩))
      go_ret
      exact ⟨rfl, hb1⟩
/-- What the law reads in the rest: 'st' signs, the digits ds, then ':', ' ', msg. -/
theorem rest_facts (r msg : ByteArray) (pre ds : List UInt8) (hr : r.data.toList = pre ++ ds ++ 58 :: 32 :: msg.data.toList) :
    r.size = pre.length + ds.length + 2 + msg.size ∧ (∀ k (h : k < ds.length), r.data.toList[pre.length + k]? = some ds[k]) ∧ r.data.toList[pre.length + ds.length]? = some 58 ∧ r.data.toList[pre.length + ds.length + 1]? = some 32 ∧
      r.extract (pre.length + ds.length + 2) r.size = msg := by
  have hs : r.size = pre.length + ds.length + 2 + msg.size := by
    have e := congrArg List.length hr
    simp only [List.length_append, List.length_cons] at e
    rw [Lib.size_eq, Lib.size_eq msg]
    omega
  refine ⟨hs, fun k h => ?_, ?_, ?_, ext_of ?_⟩
  · rw [hr, List.append_assoc, List.getElem?_append_right (by omega), show pre.length + k - pre.length = k from by omega, List.getElem?_append_left h, List.getElem?_eq_getElem h]
  · rw [hr, List.getElem?_append_right (by simp), show pre.length + ds.length - (pre ++ ds).length = 0 from by simp]; rfl
  · rw [hr, List.getElem?_append_right (by simp), show pre.length + ds.length + 1 - (pre ++ ds).length = 1 from by simp]; rfl
  · rw [Lib.extract_data, hr, hs]
    rw [show pre ++ ds ++ 58 :: 32 :: msg.data.toList = (pre ++ ds ++ [58, 32]) ++ msg.data.toList from by simp, show pre.length + ds.length + 2 = (pre ++ ds ++ [58, 32]).length from by simp; omega, List.drop_left, List.take_of_length_le]
    rw [Lib.size_eq msg]
    omega

theorem at_of (r : ByteArray) (i : Nat) (c : UInt8) (h : r.data.toList[i]? = some c) (hi : i < r.size) : r[i].toNat = c.toNat := by
  rw [List.getElem?_eq_getElem (by rw [← Lib.size_eq]; exact hi)] at h
  have e : r[i] = c := Option.some.inj h
  rw [e]

set_option maxHeartbeats 2000000 in
set_option maxRecDepth 100000 in
theorem law_pos (F : Interp) (file msg : ByteArray) (u : Nat) (w : World) (hF : F.answers w.tape) (hfs : file.size ≤ 65536) (hms : msg.size ≤ 65536) (hu1 : 1 ≤ u) (hu2 : u < 9223372036854775808)
    (hg : (FmtStop.textOf (F "fmt.Sprintf" (reading file.data.toList (u : Int) msg.data.toList) 0)).data.toList = file.data.toList ++ 58 :: (Lib.decDigits u ++ 58 :: 32 :: msg.data.toList)) :
    Calls Tryf.prog 3 #[.string file, .int .i64 (u : Int), .string msg] w fun e w' => e = .returned (.bool true) ∧ Below w.heap.size w w' := by
  have hT := text_line F file msg (u : Int) w hF (by rw [beq_eq_false_iff_ne]; omega)
  generalize FmtStop.textOf (F "fmt.Sprintf" (reading file.data.toList (u : Int) msg.data.toList) 0) = g at hg hT
  obtain ⟨f1, f2, f3, f4⟩ := dec_facts u
  have f5 := dec_len 18 u (by omega)
  generalize Lib.decDigits u = ds at *
  obtain ⟨r, hr⟩ : ∃ r : ByteArray, r.data.toList = [] ++ ds ++ 58 :: 32 :: msg.data.toList := ⟨⟨([] ++ ds ++ 58 :: 32 :: msg.data.toList).toArray⟩, by simp⟩
  obtain ⟨hgs, hx, hy, hc⟩ := cut_facts g file r (by rw [hg, hr]; simp)
  obtain ⟨hrs, hdig, h58, h32, hz⟩ := rest_facts r msg [] ds hr
  simp only [List.length_nil, Nat.zero_add] at hrs hdig h58 h32 hz
  have hgl : file.size < g.size := by omega
  have hc' : ((g[file.size].toNat : Int) != 58) = false := by rw [hc hgl]; rfl
  obtain ⟨D, hD⟩ : ∃ D, D = ds.length := ⟨_, rfl⟩
  rw [← hD] at hrs hz f3 f5 h58 h32
  have hr0 : 0 < r.size := by omega
  have d0 : 48 < r[0].toNat ∧ r[0].toNat ≤ 57 := by
    have h0 : 0 < ds.length := by omega
    have e := hdig 0 h0
    rw [at_of r 0 _ e hr0]
    have m := f1 ds[0] (List.getElem_mem _)
    have n := f4 hu1 ds[0] (List.getElem?_eq_getElem h0)
    omega
  have e32 : ((r[0].toNat : Int) == 32) = false := by rw [beq_eq_false_iff_ne]; omega
  have e45 : ((r[0].toNat : Int) == 45) = false := by rw [beq_eq_false_iff_ne]; omega
  have e48 : ((r[0].toNat : Int) == 48) = false := by rw [beq_eq_false_iff_ne]; omega
  have g1 : file.size + 1 ≤ g.size := by omega
  have g2 : g.size ≤ 140000 := by omega
  have r1 : D + 2 ≤ r.size := by omega
  have r2 : r.size ≤ 140000 := by omega
  -- what the rounds read
  have Hdig : Hid (∀ k (h : k < D) (hk : k < r.size), 48 ≤ r[k].toNat ∧ r[k].toNat ≤ 57 ∧ val (ds.take (k + 1)) = val (ds.take k) * 10 + (r[k].toNat - 48) ∧ val (ds.take k) < 1000000000000000000) := by
    intro k h hk
    have h' : k < ds.length := by omega
    have e := at_of r k _ (hdig k h') hk
    have m := f1 ds[k] (List.getElem_mem _)
    have v := val_lt ds f1 k (by omega)
    have p : (10 : Nat) ^ k ≤ 10 ^ 18 := Nat.pow_le_pow_right (by omega) (by omega)
    rw [e]
    exact ⟨m.1, m.2, val_step ds k h', by omega⟩
  have H58 : Hid (∀ hk : D < r.size, r[D].toNat = 58) := fun hk => at_of r D _ h58 hk
  have H32 : Hid (∀ hk : D + 1 < r.size, r[D + 1].toNat = 32) := fun hk => at_of r (D + 1) _ h32 hk
  have Hval : Hid (val (ds.take D) = u) := by rw [hD, List.take_length]; exact f2
  clear hgs hg hr hc hrs hdig h58 h32 d0 f1 f2 f4 hD
  go_enter Tryf.func3, Tryf.ntmps3
  go_wp2_with (first | go_in)
  go_loop [7] (fun i => ∃ k : Nat, k ≤ file.size ∧ i = .int .i64 k) (fun i => file.size - (intOf i).toNat)
  case atStart => exact ⟨0, Nat.zero_le _, rfl⟩
  case round =>
    obtain ⟨k, hk, rfl⟩ := hrel
    by_cases hlt : k < file.size
    · go_wp2
      · go_ret
        exact ⟨rfl, Below.refl _ _⟩
      · go_round
        case rel => exact ⟨k + 1, by omega, by go_num⟩
        case measure => simp [intOf]; omega
    · go_wp2_with (first | (go_at_call 5; refine hT.mono ?_; rintro e w1 ⟨rfl, hb1⟩))
      clear hlt hk hT hx hy hc' g1 g2
      go_loop [11, 13] (fun j v => ∃ (k : Nat) (a : Int), j = .int .i64 k ∧ k ≤ D ∧ v = .int .u64 a ∧ 0 ≤ a ∧ Hid (a = (val (ds.take k) : Int))) (fun j _ => D - (intOf j).toNat)
      case atStart => exact ⟨0, 0, rfl, Nat.zero_le _, rfl, by omega, rfl⟩
      case round =>
        obtain ⟨k, a, rfl, hk, rfl, ha0, ha⟩ := hrel
        by_cases hlt : k < D
        · have hkr : k < r.size := by omega
          obtain ⟨p48, p57, pv, pl⟩ := Hdig.out k hlt hkr
          have hav := ha.out
          have a1 : a < 1000000000000000000 := by omega
          have q48 : 48 ≤ (r[k].toNat : Int) := by omega
          have q57 : (r[k].toNat : Int) ≤ 57 := by omega
          have HN : Hid (a * 10 + ((r[k].toNat : Int) - 48) = (val (ds.take (k + 1)) : Int)) := by
            show _ = _
            rw [pv]; omega
          clear pv pl hav ha p48 p57
          go_wp2
          go_round
          case rel => exact ⟨k + 1, _, by go_num, by omega, rfl, by omega, HN⟩
          case measure => simp [intOf]; omega
        · obtain rfl : k = D := by omega
          have hkr : k < r.size := by omega
          have hkr1 : k + 1 < r.size := by omega
          have e58 := H58.out hkr
          have e32' := H32.out hkr1
          have q48 : 48 ≤ (r[k].toNat : Int) := by omega
          have q57 : 57 < (r[k].toNat : Int) := by omega
          have q58 : ((r[k].toNat : Int) != 58) = false := by rw [e58]; rfl
          have q32 : ((r[k + 1].toNat : Int) != 32) = false := by rw [e32']; rfl
          have qk : ((k : Int) == 0) = false := by rw [beq_eq_false_iff_ne]; omega
          obtain rfl : a = (u : Int) := by rw [ha.out, Hval.out]
          clear e58 e32' ha Hdig H58 H32 Hval hlt
          go_wp2
          go_ret
          exact ⟨rfl, hb1⟩
end Go.Proofs.Qxb6604448aFmt
