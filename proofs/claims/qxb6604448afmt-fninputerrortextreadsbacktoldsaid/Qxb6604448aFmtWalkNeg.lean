/-
  The law at negative lines, the least int among them.
-/
import Derived.Test.Qxb6604448aFmtWalks
namespace Go.Proofs.Qxb6604448aFmt
open Go.RowKit Go.Extern.Stop Go.Stop Go.Extern

theorem wrap_neg (u : Nat) (h1 : 1 ≤ u) (h2 : u ≤ 9223372036854775808) : wrap64 (-wrap64 (u : Int)) = -(u : Int) := by
  unfold wrap64
  omega

set_option maxHeartbeats 2000000 in
set_option maxRecDepth 100000 in
theorem law_neg (F : Interp) (file msg : ByteArray) (u : Nat) (w : World) (hF : F.answers w.tape) (hfs : file.size ≤ 65536) (hms : msg.size ≤ 65536) (hu1 : 1 ≤ u) (hu2 : u ≤ 9223372036854775808)
    (hg : (FmtStop.textOf (F "fmt.Sprintf" (reading file.data.toList (-(u : Int)) msg.data.toList) 0)).data.toList = file.data.toList ++ 58 :: 45 :: (Lib.decDigits u ++ 58 :: 32 :: msg.data.toList)) :
    Calls Tryf.prog 3 #[.string file, .int .i64 (-(u : Int)), .string msg] w fun e w' => e = .returned (.bool true) ∧ Below w.heap.size w w' := by
  have hT := text_line F file msg (-(u : Int)) w hF (by rw [beq_eq_false_iff_ne]; omega)
  generalize FmtStop.textOf (F "fmt.Sprintf" (reading file.data.toList (-(u : Int)) msg.data.toList) 0) = g at hg hT
  obtain ⟨f1, f2, f3, f4⟩ := dec_facts u
  have f5 := dec_len 18 u (by omega)
  generalize Lib.decDigits u = ds at *
  obtain ⟨r, hr⟩ : ∃ r : ByteArray, r.data.toList = [45] ++ ds ++ 58 :: 32 :: msg.data.toList := ⟨⟨([45] ++ ds ++ 58 :: 32 :: msg.data.toList).toArray⟩, by simp⟩
  obtain ⟨hgs, hx, hy, hc⟩ := cut_facts g file r (by rw [hg, hr]; simp)
  obtain ⟨hrs, hdig, h58, h32, hz⟩ := rest_facts r msg [45] ds hr
  have h45 : r.data.toList[0]? = some 45 := by rw [hr]; rfl
  simp only [List.length_cons, List.length_nil, Nat.zero_add] at hrs hdig h58 h32 hz
  rw [show ∀ x, 1 + x = x + 1 from fun x => Nat.add_comm 1 x] at h58 h32 hz
  have hgl : file.size < g.size := by omega
  have hc' : ((g[file.size].toNat : Int) != 58) = false := by rw [hc hgl]; rfl
  obtain ⟨D, hD⟩ : ∃ D, D = ds.length := ⟨_, rfl⟩
  rw [← hD] at hrs hz f3 f5 h58 h32
  have hr0 : 0 < r.size := by omega
  have hr1 : 1 < r.size := by omega
  have d0 : 48 < r[1].toNat ∧ r[1].toNat ≤ 57 := by
    have h0 : 0 < ds.length := by omega
    have e := hdig 0 h0
    rw [at_of r 1 _ e hr1]
    have m := f1 ds[0] (List.getElem_mem _)
    have n := f4 hu1 ds[0] (List.getElem?_eq_getElem h0)
    omega
  have d45 : r[0].toNat = 45 := at_of r 0 _ h45 hr0
  have e32 : ((r[0].toNat : Int) == 32) = false := by rw [d45]; rfl
  have e45 : ((r[0].toNat : Int) == 45) = true := by rw [d45]; rfl
  have e48 : ((r[1].toNat : Int) == 48) = false := by rw [beq_eq_false_iff_ne]; omega
  have g1 : file.size + 1 ≤ g.size := by omega
  have g2 : g.size ≤ 140000 := by omega
  have r1 : D + 3 ≤ r.size := by omega
  have r2 : r.size ≤ 140000 := by omega
  -- what the rounds read
  have Hdig : Hid (∀ k (h : k < D) (hk : k + 1 < r.size), 48 ≤ r[k + 1].toNat ∧ r[k + 1].toNat ≤ 57 ∧ val (ds.take (k + 1)) = val (ds.take k) * 10 + (r[k + 1].toNat - 48) ∧ val (ds.take k) < 1000000000000000000) := by
    intro k h hk
    have h' : k < ds.length := by omega
    have e := at_of r (k + 1) _ (by rw [Nat.add_comm]; exact hdig k h') hk
    have m := f1 ds[k] (List.getElem_mem _)
    have v := val_lt ds f1 k (by omega)
    have p : (10 : Nat) ^ k ≤ 10 ^ 18 := Nat.pow_le_pow_right (by omega) (by omega)
    rw [e]
    exact ⟨m.1, m.2, val_step ds k h', by omega⟩
  have H58 : Hid (∀ hk : D + 1 < r.size, r[D + 1].toNat = 58) := fun hk => at_of r (D + 1) _ h58 hk
  have H32 : Hid (∀ hk : D + 1 + 1 < r.size, r[D + 1 + 1].toNat = 32) := fun hk => at_of r (D + 1 + 1) _ h32 hk
  have Hval : Hid (val (ds.take D) = u) := by rw [hD, List.take_length]; exact f2
  clear hgs hg hr hc hrs hdig h58 h32 d0 f1 f2 f4 hD h45 d45
  go_enter Tryf.func3, Tryf.ntmps3
  go_wp2_with (first | go_in)
  go_loop [7] (fun i => ∃ k : Nat, k ≤ file.size ∧ i = .int .i64 k) (fun i => file.size - (intOf i).toNat)
  case atStart => exact ⟨0, Nat.zero_le _, rfl⟩
  case round =>
    obtain ⟨k, hk, rfl⟩ := hrel
    by_cases hlt : k < file.size
    · go_wp2
      · go_ret
        exact ⟨rfl, Below.refl _ _⟩
      · go_round
        case rel => exact ⟨k + 1, by omega, by go_num⟩
        case measure => simp [intOf]; omega
    · go_wp2_with (first | (go_at_call 5; refine hT.mono ?_; rintro e w1 ⟨rfl, hb1⟩))
      clear hlt hk hT hx hy hc' g1 g2
      go_loop [11, 13] (fun j v => ∃ (k : Nat) (a : Int), j = .int .i64 ((k : Int) + 1) ∧ k ≤ D ∧ v = .int .u64 a ∧ 0 ≤ a ∧ Hid (a = (val (ds.take k) : Int))) (fun j _ => D + 1 - (intOf j).toNat)
      case atStart => exact ⟨0, 0, rfl, Nat.zero_le _, rfl, by omega, rfl⟩
      case round =>
        obtain ⟨k, a, rfl, hk, rfl, ha0, ha⟩ := hrel
        by_cases hlt : k < D
        · have hkr : k + 1 < r.size := by omega
          obtain ⟨p48, p57, pv, pl⟩ := Hdig.out k hlt hkr
          have hav := ha.out
          have a1 : a < 1000000000000000000 := by omega
          have q48 : 48 ≤ (r[k + 1].toNat : Int) := by omega
          have q57 : (r[k + 1].toNat : Int) ≤ 57 := by omega
          have HN : Hid (a * 10 + ((r[k + 1].toNat : Int) - 48) = (val (ds.take (k + 1)) : Int)) := by
            show _ = _
            rw [pv]; omega
          clear pv pl hav ha p48 p57
          go_wp2
          go_round
          case rel => exact ⟨k + 1, _, by go_num, by omega, rfl, by omega, HN⟩
          case measure => simp [intOf]; omega
        · obtain rfl : k = D := by omega
          have hkr : k + 1 < r.size := by omega
          have hkr1 : k + 1 + 1 < r.size := by omega
          have e58 := H58.out hkr
          have e32' := H32.out hkr1
          have q48 : 48 ≤ (r[k + 1].toNat : Int) := by omega
          have q57 : 57 < (r[k + 1].toNat : Int) := by omega
          have q58 : ((r[k + 1].toNat : Int) != 58) = false := by rw [e58]; rfl
          have q32 : ((r[k + 1 + 1].toNat : Int) != 32) = false := by rw [e32']; rfl
          have qk : ((k : Int) == 0) = false := by rw [beq_eq_false_iff_ne]; omega
          obtain rfl : a = (u : Int) := by rw [ha.out, Hval.out]
          clear e58 e32' ha Hdig H58 H32 Hval hlt
          have hw := wrap_neg u hu1 hu2
          go_wp2
          go_ret
          exact ⟨rfl, hb1⟩

end Go.Proofs.Qxb6604448aFmt
