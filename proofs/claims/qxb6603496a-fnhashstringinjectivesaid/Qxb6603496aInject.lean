/-
  'FnHashStringInjective': the walks.
-/
import Derived.Test.Qxb6603496aEqual
namespace Go.Proofs.Qxb6603496a
open Go.RowKit

/-- The bytes l lie at x. -/
def Src (w : World) (x : Addr) (l : List UInt8) : Prop := ∀ i (h : i < l.length), w.cell? (x.add i) = some (.int .u8 ((l[i]'h).toNat : Int))

theorem byteVals_one (l : List UInt8) : ∀ v ∈ byteVals l, v.oneCell' = true := fun v hv => by
  obtain ⟨b, _, rfl⟩ := List.mem_map.1 hv; rfl

theorem byteVals_len (l : List UInt8) : (byteVals l).length = l.length := by simp [byteVals]

theorem Src.at {w w' : World} {x : Addr} {l : List UInt8} (h : Src w x l) (hb : Below w.heap.size w w') : ∀ j v, (byteVals l)[j]? = some v → w'.cell? (x.add j) = some v := fun j v hj => by
  have hj' : j < l.length := by have := (List.getElem?_eq_some_iff.1 hj).1; simpa [byteVals] using this
  rw [cell_later hb (h j hj'), ← hj]
  simp [byteVals, hj']

theorem row_own {w : World} {g : Nat} {cur : List Value} {l : List UInt8} (hc : cur.length = l.length) (h : w.heap[g]? = some (.cells (splice cur 0 (byteVals l)).toArray 5 (0, 0))) : RowAt w (some ⟨g, 0, none⟩) l ∧ g < w.heap.size :=
  ⟨fun i hi => ⟨g, rfl, (own_cells hc h).2 i hi⟩, (own_cells hc h).1⟩

set_option maxHeartbeats 2000000 in
set_option maxRecDepth 100000 in
theorem inj_ss (fn1 fn2 : ByteArray) (x1 : Addr) (n1 cap1 : Nat) (l1 : List UInt8) (x2 : Addr) (n2 cap2 : Nat) (l2 : List UInt8) (w : World) (hf1 : fn1.size ≤ 65536) (hf2 : fn2.size ≤ 65536) (e1 : l1.length = n1) (hn1 : n1 ≤ 65536) (s1 : Src w x1 l1) (e2 : l2.length = n2) (hn2 : n2 ≤ 65536) (s2 : Src w x2 l2) :
    Calls Try.prog 4 #[.string fn1, .slice (some x1) n1 cap1, .string fn2, .slice (some x2) n2 cap2] w fun e w' => e = .returned (.bool true) ∧ Below w.heap.size w w' := by
  obtain ⟨cur1, hcur1, hmk1⟩ := make_run n1 hn1
  have E1 := Lib.hid e1
  have C1 := Lib.hid hcur1
  have S1 := Lib.hid s1
  obtain ⟨cs1, hcs1⟩ : ∃ cs, cs = byteVals l1 := ⟨_, rfl⟩
  have K1 := Lib.hid hcs1
  clear e1 hcur1 s1 hcs1
  obtain ⟨cur2, hcur2, hmk2⟩ := make_run n2 hn2
  have E2 := Lib.hid e2
  have C2 := Lib.hid hcur2
  have S2 := Lib.hid s2
  obtain ⟨cs2, hcs2⟩ : ∃ cs, cs = byteVals l2 := ⟨_, rfl⟩
  have K2 := Lib.hid hcs2
  clear e2 hcur2 s2 hcs2
  go_enter Try.func4, Try.ntmps4
  go_wp2_with (first | go_in | (refine wpList_copy_splice rfl (.tmp 39) (.tmp 40) 22 22 rfl 5 Try.underlying22 size5 (some ⟨w.heap.size, 0, none⟩) (some x1) n1 n1 n1 cap1 rfl rfl w.heap.size 0 cur1 5 ?hg cs1 ?hn ?hpos ?hfit ?h1 w.heap.size w ?hb (Nat.le_refl _) ?_))
  case hg => exact heap_new w _
  case hn => rw [K1.out, byteVals_len, E1.out]; exact (Nat.min_self n1).symm
  case hpos => exact fun _ j v hj => S1.out.at ((Below.refl _ w).alloc (Nat.le_refl _) _) j v (by rw [← K1.out]; exact hj)
  case hfit => rw [K1.out, byteVals_len, E1.out, C1.out]; omega
  case h1 => rw [K1.out]; exact byteVals_one l1
  case hb => exact (Below.refl _ w).alloc (Nat.le_refl _) _
  intro w2 HG2 hb2
  have R1 : Hid (RowAt w2 (some ⟨w.heap.size, 0, none⟩) l1 ∧ w.heap.size < w2.heap.size) := row_own (by rw [C1.out, E1.out]) (by rw [← K1.out]; exact HG2.out)
  clear HG2 hmk1 C1 K1 S1
  go_wp2_with ((refine wpList_copy_splice rfl (.tmp 48) (.tmp 49) 22 22 rfl 5 Try.underlying22 size5 (some ⟨w2.heap.size, 0, none⟩) (some x2) n2 n2 n2 cap2 rfl rfl w2.heap.size 0 cur2 5 ?hg cs2 ?hn ?hpos ?hfit ?h1 w2.heap.size w2 ?hb (Nat.le_refl _) ?_))
  case hg => exact heap_new w2 _
  case hn => rw [K2.out, byteVals_len, E2.out]; exact (Nat.min_self n2).symm
  case hpos => exact fun _ j v hj => S2.out.at (hb2.alloc hb2.size _) j v (by rw [← K2.out]; exact hj)
  case hfit => rw [K2.out, byteVals_len, E2.out, C2.out]; omega
  case h1 => rw [K2.out]; exact byteVals_one l2
  case hb => exact (Below.refl _ w2).alloc (Nat.le_refl _) _
  intro w3 HG3 hb3
  have R2 : Hid (RowAt w3 (some ⟨w2.heap.size, 0, none⟩) l2 ∧ w2.heap.size < w3.heap.size) := row_own (by rw [C2.out, E2.out]) (by rw [← K2.out]; exact HG3.out)
  have z2 := R2.out.2
  clear HG3 hmk2 C2 K2 S2
  have z1 := R1.out.2
  have Q1 : Hid (RowAt w3 (some ⟨w.heap.size, 0, none⟩) l1) := R1.out.1.keep hb3
  clear R1
  have Q2 : Hid (RowAt w3 (some ⟨w2.heap.size, 0, none⟩) l2) := R2.out.1
  clear R2
  have P : Hid (Below w.heap.size w w3) := hb2.trans (hb3.mono hb2.size)
  clear hb2 hb3
  go_wp2_with fail
  have b3 : Below w3.heap.size w3 ((w3.alloc (.cells #[.string fn1, .slice (some ⟨w.heap.size, 0, none⟩) n1 n1] 26)).alloc (.cells #[.string fn2, .slice (some ⟨w2.heap.size, 0, none⟩) n2 n2] 26)) := by go_grown
  refine (str_any fn1 (some ⟨w.heap.size, 0, none⟩) n1 l1 _ E1.out (Or.inr ⟨_, rfl, ?_⟩) ?_ hf1 hn1).mono ?_
  · have := b3.size; omega
  · exact RowAt.keep Q1.out b3
  rintro e w5 ⟨rfl, hb5⟩
  have q0 : w5.cell? ⟨w3.heap.size + 1, 0, none⟩ = some (.string fn2) := (hb5.cell (p := ⟨w3.heap.size + 1, 0, none⟩) (by simp)).trans (by simp)
  have q1 : w5.cell? ⟨w3.heap.size + 1, 1, none⟩ = some (.slice (some ⟨w2.heap.size, 0, none⟩) n2 n2) := (hb5.cell (p := ⟨w3.heap.size + 1, 1, none⟩) (by simp)).trans (by simp)
  have b5 : Below w3.heap.size w3 w5 := b3.trans (hb5.mono b3.size)
  clear hb5 b3
  go_wp2_with fail
  refine (str_any fn2 (some ⟨w2.heap.size, 0, none⟩) n2 l2 _ E2.out (Or.inr ⟨_, rfl, ?_⟩) ?_ hf2 hn2).mono ?_
  · have := b5.size; omega
  · exact RowAt.keep Q2.out b5
  rintro e w6 ⟨rfl, hb6⟩
  have b6 : Below w3.heap.size w3 w6 := b5.trans (hb6.mono b5.size)
  have HB : Hid (Below w.heap.size w w6) := P.out.trans (b6.mono P.out.size)
  have hQ := eq_any (some ⟨w.heap.size, 0, none⟩) (some ⟨w2.heap.size, 0, none⟩) n1 n2 l1 l2 w6 hn1 E1.out E2.out (RowAt.keep Q1.out b6) (RowAt.keep Q2.out b6)
  clear q0 q1 b5 hb6 b6 P Q1 z1 E1 Q2 z2 E2
  by_cases hf : fn1 = fn2
  · subst hf
    have hs : ((txt fn1 l1).toList == (txt fn1 l2).toList) = decide ((l1 : List UInt8) = l2) := beq_strings _ _ _ ⟨fun h => decide_eq_true (txt_inj _ _ _ _ h).2, fun h => by rw [of_decide_eq_true h]⟩
    generalize decide ((l1 : List UInt8) = l2) = b at *
    generalize txt fn1 l1 = t1 at *
    generalize txt fn1 l2 = t2 at *
    go_wp2_with (go_at_call 9; refine hQ.mono ?_; rintro e w7 ⟨rfl, hb7⟩)
    go_ret
    exact ⟨rfl, HB.out.trans (hb7.mono HB.out.size)⟩
  · have hs : ((txt fn1 l1).toList == (txt fn2 l2).toList) = false := beq_strings _ _ _ ⟨fun h => absurd (txt_inj _ _ _ _ h).1 hf, fun h => by cases h⟩
    have hf' : (fn1.toList == fn2.toList) = false := beq_strings _ _ _ ⟨fun h => absurd h hf, fun h => by cases h⟩
    generalize txt fn1 l1 = t1 at *
    generalize txt fn2 l2 = t2 at *
    clear hf hQ
    go_wp2
    go_ret
    exact ⟨rfl, HB.out⟩

set_option maxHeartbeats 2000000 in
set_option maxRecDepth 100000 in
theorem inj_sn (fn1 fn2 : ByteArray) (x1 : Addr) (n1 cap1 : Nat) (l1 : List UInt8) (w : World) (hf1 : fn1.size ≤ 65536) (hf2 : fn2.size ≤ 65536) (e1 : l1.length = n1) (hn1 : n1 ≤ 65536) (s1 : Src w x1 l1) :
    Calls Try.prog 4 #[.string fn1, .slice (some x1) n1 cap1, .string fn2, .slice none 0 0] w fun e w' => e = .returned (.bool true) ∧ Below w.heap.size w w' := by
  obtain ⟨cur1, hcur1, hmk1⟩ := make_run n1 hn1
  have E1 := Lib.hid e1
  have C1 := Lib.hid hcur1
  have S1 := Lib.hid s1
  obtain ⟨cs1, hcs1⟩ : ∃ cs, cs = byteVals l1 := ⟨_, rfl⟩
  have K1 := Lib.hid hcs1
  clear e1 hcur1 s1 hcs1
  go_enter Try.func4, Try.ntmps4
  go_wp2_with (first | go_in | (refine wpList_copy_splice rfl (.tmp 39) (.tmp 40) 22 22 rfl 5 Try.underlying22 size5 (some ⟨w.heap.size, 0, none⟩) (some x1) n1 n1 n1 cap1 rfl rfl w.heap.size 0 cur1 5 ?hg cs1 ?hn ?hpos ?hfit ?h1 w.heap.size w ?hb (Nat.le_refl _) ?_))
  case hg => exact heap_new w _
  case hn => rw [K1.out, byteVals_len, E1.out]; exact (Nat.min_self n1).symm
  case hpos => exact fun _ j v hj => S1.out.at ((Below.refl _ w).alloc (Nat.le_refl _) _) j v (by rw [← K1.out]; exact hj)
  case hfit => rw [K1.out, byteVals_len, E1.out, C1.out]; omega
  case h1 => rw [K1.out]; exact byteVals_one l1
  case hb => exact (Below.refl _ w).alloc (Nat.le_refl _) _
  intro w2 HG2 hb2
  have R1 : Hid (RowAt w2 (some ⟨w.heap.size, 0, none⟩) l1 ∧ w.heap.size < w2.heap.size) := row_own (by rw [C1.out, E1.out]) (by rw [← K1.out]; exact HG2.out)
  clear HG2 hmk1 C1 K1 S1
  have z1 := R1.out.2
  have Q1 : Hid (RowAt w2 (some ⟨w.heap.size, 0, none⟩) l1) := R1.out.1
  clear R1
  have P : Hid (Below w.heap.size w w2) := hb2
  clear hb2
  go_wp2_with fail
  have b3 : Below w2.heap.size w2 ((w2.alloc (.cells #[.string fn1, .slice (some ⟨w.heap.size, 0, none⟩) n1 n1] 26)).alloc (.cells #[.string fn2, .slice none 0 0] 26)) := by go_grown
  refine (str_any fn1 (some ⟨w.heap.size, 0, none⟩) n1 l1 _ E1.out (Or.inr ⟨_, rfl, ?_⟩) ?_ hf1 hn1).mono ?_
  · have := b3.size; omega
  · exact RowAt.keep Q1.out b3
  rintro e w5 ⟨rfl, hb5⟩
  have q0 : w5.cell? ⟨w2.heap.size + 1, 0, none⟩ = some (.string fn2) := (hb5.cell (p := ⟨w2.heap.size + 1, 0, none⟩) (by simp)).trans (by simp)
  have q1 : w5.cell? ⟨w2.heap.size + 1, 1, none⟩ = some (.slice none 0 0) := (hb5.cell (p := ⟨w2.heap.size + 1, 1, none⟩) (by simp)).trans (by simp)
  have b5 : Below w2.heap.size w2 w5 := b3.trans (hb5.mono b3.size)
  clear hb5 b3
  go_wp2_with fail
  refine (str_any fn2 none 0 [] _ rfl (Or.inl ⟨rfl, rfl⟩) ?_ hf2 (Nat.zero_le _)).mono ?_
  · exact RowAt.keep (RowAt.nil w2 none) b5
  rintro e w6 ⟨rfl, hb6⟩
  have b6 : Below w2.heap.size w2 w6 := b5.trans (hb6.mono b5.size)
  have HB : Hid (Below w.heap.size w w6) := P.out.trans (b6.mono P.out.size)
  have hQ := eq_any (some ⟨w.heap.size, 0, none⟩) none n1 0 l1 [] w6 hn1 E1.out rfl (RowAt.keep Q1.out b6) (RowAt.keep (RowAt.nil w2 none) b6)
  clear q0 q1 b5 hb6 b6 P Q1 z1 E1
  by_cases hf : fn1 = fn2
  · subst hf
    have hs : ((txt fn1 l1).toList == (txt fn1 []).toList) = decide ((l1 : List UInt8) = []) := beq_strings _ _ _ ⟨fun h => decide_eq_true (txt_inj _ _ _ _ h).2, fun h => by rw [of_decide_eq_true h]⟩
    generalize decide ((l1 : List UInt8) = []) = b at *
    generalize txt fn1 l1 = t1 at *
    generalize txt fn1 [] = t2 at *
    go_wp2_with (go_at_call 9; refine hQ.mono ?_; rintro e w7 ⟨rfl, hb7⟩)
    go_ret
    exact ⟨rfl, HB.out.trans (hb7.mono HB.out.size)⟩
  · have hs : ((txt fn1 l1).toList == (txt fn2 []).toList) = false := beq_strings _ _ _ ⟨fun h => absurd (txt_inj _ _ _ _ h).1 hf, fun h => by cases h⟩
    have hf' : (fn1.toList == fn2.toList) = false := beq_strings _ _ _ ⟨fun h => absurd h hf, fun h => by cases h⟩
    generalize txt fn1 l1 = t1 at *
    generalize txt fn2 [] = t2 at *
    clear hf hQ
    go_wp2
    go_ret
    exact ⟨rfl, HB.out⟩

set_option maxHeartbeats 2000000 in
set_option maxRecDepth 100000 in
theorem inj_ns (fn1 fn2 : ByteArray) (x2 : Addr) (n2 cap2 : Nat) (l2 : List UInt8) (w : World) (hf1 : fn1.size ≤ 65536) (hf2 : fn2.size ≤ 65536) (e2 : l2.length = n2) (hn2 : n2 ≤ 65536) (s2 : Src w x2 l2) :
    Calls Try.prog 4 #[.string fn1, .slice none 0 0, .string fn2, .slice (some x2) n2 cap2] w fun e w' => e = .returned (.bool true) ∧ Below w.heap.size w w' := by
  obtain ⟨cur2, hcur2, hmk2⟩ := make_run n2 hn2
  have E2 := Lib.hid e2
  have C2 := Lib.hid hcur2
  have S2 := Lib.hid s2
  obtain ⟨cs2, hcs2⟩ : ∃ cs, cs = byteVals l2 := ⟨_, rfl⟩
  have K2 := Lib.hid hcs2
  clear e2 hcur2 s2 hcs2
  go_enter Try.func4, Try.ntmps4
  go_wp2_with (first | go_in | (refine wpList_copy_splice rfl (.tmp 48) (.tmp 49) 22 22 rfl 5 Try.underlying22 size5 (some ⟨w.heap.size, 0, none⟩) (some x2) n2 n2 n2 cap2 rfl rfl w.heap.size 0 cur2 5 ?hg cs2 ?hn ?hpos ?hfit ?h1 w.heap.size w ?hb (Nat.le_refl _) ?_))
  case hg => exact heap_new w _
  case hn => rw [K2.out, byteVals_len, E2.out]; exact (Nat.min_self n2).symm
  case hpos => exact fun _ j v hj => S2.out.at ((Below.refl _ w).alloc (Nat.le_refl _) _) j v (by rw [← K2.out]; exact hj)
  case hfit => rw [K2.out, byteVals_len, E2.out, C2.out]; omega
  case h1 => rw [K2.out]; exact byteVals_one l2
  case hb => exact (Below.refl _ w).alloc (Nat.le_refl _) _
  intro w3 HG3 hb3
  have R2 : Hid (RowAt w3 (some ⟨w.heap.size, 0, none⟩) l2 ∧ w.heap.size < w3.heap.size) := row_own (by rw [C2.out, E2.out]) (by rw [← K2.out]; exact HG3.out)
  have z2 := R2.out.2
  clear HG3 hmk2 C2 K2 S2
  have Q2 : Hid (RowAt w3 (some ⟨w.heap.size, 0, none⟩) l2) := R2.out.1
  clear R2
  have P : Hid (Below w.heap.size w w3) := hb3
  clear hb3
  go_wp2_with fail
  have b3 : Below w3.heap.size w3 ((w3.alloc (.cells #[.string fn1, .slice none 0 0] 26)).alloc (.cells #[.string fn2, .slice (some ⟨w.heap.size, 0, none⟩) n2 n2] 26)) := by go_grown
  refine (str_any fn1 none 0 [] _ rfl (Or.inl ⟨rfl, rfl⟩) ?_ hf1 (Nat.zero_le _)).mono ?_
  · exact RowAt.keep (RowAt.nil w3 none) b3
  rintro e w5 ⟨rfl, hb5⟩
  have q0 : w5.cell? ⟨w3.heap.size + 1, 0, none⟩ = some (.string fn2) := (hb5.cell (p := ⟨w3.heap.size + 1, 0, none⟩) (by simp)).trans (by simp)
  have q1 : w5.cell? ⟨w3.heap.size + 1, 1, none⟩ = some (.slice (some ⟨w.heap.size, 0, none⟩) n2 n2) := (hb5.cell (p := ⟨w3.heap.size + 1, 1, none⟩) (by simp)).trans (by simp)
  have b5 : Below w3.heap.size w3 w5 := b3.trans (hb5.mono b3.size)
  clear hb5 b3
  go_wp2_with fail
  refine (str_any fn2 (some ⟨w.heap.size, 0, none⟩) n2 l2 _ E2.out (Or.inr ⟨_, rfl, ?_⟩) ?_ hf2 hn2).mono ?_
  · have := b5.size; omega
  · exact RowAt.keep Q2.out b5
  rintro e w6 ⟨rfl, hb6⟩
  have b6 : Below w3.heap.size w3 w6 := b5.trans (hb6.mono b5.size)
  have HB : Hid (Below w.heap.size w w6) := P.out.trans (b6.mono P.out.size)
  have hQ := eq_any none (some ⟨w.heap.size, 0, none⟩) 0 n2 [] l2 w6 (Nat.zero_le _) rfl E2.out (RowAt.keep (RowAt.nil w3 none) b6) (RowAt.keep Q2.out b6)
  clear q0 q1 b5 hb6 b6 P Q2 z2 E2
  by_cases hf : fn1 = fn2
  · subst hf
    have hs : ((txt fn1 []).toList == (txt fn1 l2).toList) = decide (([] : List UInt8) = l2) := beq_strings _ _ _ ⟨fun h => decide_eq_true (txt_inj _ _ _ _ h).2, fun h => by rw [of_decide_eq_true h]⟩
    generalize decide (([] : List UInt8) = l2) = b at *
    generalize txt fn1 [] = t1 at *
    generalize txt fn1 l2 = t2 at *
    go_wp2_with (go_at_call 9; refine hQ.mono ?_; rintro e w7 ⟨rfl, hb7⟩)
    go_ret
    exact ⟨rfl, HB.out.trans (hb7.mono HB.out.size)⟩
  · have hs : ((txt fn1 []).toList == (txt fn2 l2).toList) = false := beq_strings _ _ _ ⟨fun h => absurd (txt_inj _ _ _ _ h).1 hf, fun h => by cases h⟩
    have hf' : (fn1.toList == fn2.toList) = false := beq_strings _ _ _ ⟨fun h => absurd h hf, fun h => by cases h⟩
    generalize txt fn1 [] = t1 at *
    generalize txt fn2 l2 = t2 at *
    clear hf hQ
    go_wp2
    go_ret
    exact ⟨rfl, HB.out⟩

set_option maxHeartbeats 2000000 in
set_option maxRecDepth 100000 in
theorem inj_nn (fn1 fn2 : ByteArray) (w : World) (hf1 : fn1.size ≤ 65536) (hf2 : fn2.size ≤ 65536) :
    Calls Try.prog 4 #[.string fn1, .slice none 0 0, .string fn2, .slice none 0 0] w fun e w' => e = .returned (.bool true) ∧ Below w.heap.size w w' := by
  go_enter Try.func4, Try.ntmps4
  have P : Hid (Below w.heap.size w w) := Below.refl _ w
  go_wp2_with (go_at_call 8; go_in)
  have b3 : Below w.heap.size w ((w.alloc (.cells #[.string fn1, .slice none 0 0] 26)).alloc (.cells #[.string fn2, .slice none 0 0] 26)) := by go_grown
  refine (str_any fn1 none 0 [] _ rfl (Or.inl ⟨rfl, rfl⟩) ?_ hf1 (Nat.zero_le _)).mono ?_
  · exact RowAt.keep (RowAt.nil w none) b3
  rintro e w5 ⟨rfl, hb5⟩
  have q0 : w5.cell? ⟨w.heap.size + 1, 0, none⟩ = some (.string fn2) := (hb5.cell (p := ⟨w.heap.size + 1, 0, none⟩) (by simp)).trans (by simp)
  have q1 : w5.cell? ⟨w.heap.size + 1, 1, none⟩ = some (.slice none 0 0) := (hb5.cell (p := ⟨w.heap.size + 1, 1, none⟩) (by simp)).trans (by simp)
  have b5 : Below w.heap.size w w5 := b3.trans (hb5.mono b3.size)
  clear hb5 b3
  go_wp2_with fail
  refine (str_any fn2 none 0 [] _ rfl (Or.inl ⟨rfl, rfl⟩) ?_ hf2 (Nat.zero_le _)).mono ?_
  · exact RowAt.keep (RowAt.nil w none) b5
  rintro e w6 ⟨rfl, hb6⟩
  have b6 : Below w.heap.size w w6 := b5.trans (hb6.mono b5.size)
  have HB : Hid (Below w.heap.size w w6) := P.out.trans (b6.mono P.out.size)
  have hQ := eq_any none none 0 0 [] [] w6 (Nat.zero_le _) rfl rfl (RowAt.keep (RowAt.nil w none) b6) (RowAt.keep (RowAt.nil w none) b6)
  clear q0 q1 b5 hb6 b6 P
  by_cases hf : fn1 = fn2
  · subst hf
    rw [show decide (([] : List UInt8) = []) = true from by decide] at hQ
    generalize txt fn1 [] = t1 at *
    go_wp2_with (go_at_call 9; refine hQ.mono ?_; rintro e w7 ⟨rfl, hb7⟩)
    go_ret
    exact ⟨rfl, HB.out.trans (hb7.mono HB.out.size)⟩
  · have hs : ((txt fn1 []).toList == (txt fn2 []).toList) = false := beq_strings _ _ _ ⟨fun h => absurd (txt_inj _ _ _ _ h).1 hf, fun h => by cases h⟩
    have hf' : (fn1.toList == fn2.toList) = false := beq_strings _ _ _ ⟨fun h => absurd h hf, fun h => by cases h⟩
    generalize txt fn1 [] = t1 at *
    generalize txt fn2 [] = t2 at *
    clear hf hQ
    go_wp2
    go_ret
    exact ⟨rfl, HB.out⟩

set_option maxHeartbeats 1000000 in
set_option maxRecDepth 100000 in
theorem inj_big (fn1 fn2 : ByteArray) (a1 a2 : Option Addr) (n1 n2 c1 c2 : Nat) (w : World) (hf1 : fn1.size ≤ maxLen) (hf2 : fn2.size ≤ maxLen) (hn1 : n1 ≤ maxLen) (hn2 : n2 ≤ maxLen)
    (h : 65536 < fn1.size ∨ fn1.size ≤ 65536 ∧ 65536 < n1 ∨ fn1.size ≤ 65536 ∧ n1 ≤ 65536 ∧ 65536 < fn2.size ∨ fn1.size ≤ 65536 ∧ n1 ≤ 65536 ∧ fn2.size ≤ 65536 ∧ 65536 < n2) :
    Calls Try.prog 4 #[.string fn1, .slice a1 n1 c1, .string fn2, .slice a2 n2 c2] w fun e w' => e = .returned (.bool true) ∧ Below w.heap.size w w' := by
  unfold maxLen at hf1 hf2 hn1 hn2
  rcases h with h | ⟨k1, h⟩ | ⟨k1, k2, h⟩ | ⟨k1, k2, k3, h⟩
  all_goals
    go_enter Try.func4, Try.ntmps4
    go_wp2
    all_goals (go_ret; exact ⟨rfl, Below.refl _ _⟩)

end Go.Proofs.Qxb6603496a
