/-
  'FnHashStringDecodes': the walk.
-/
import Derived.Test.Qxb6603496aText
import Derived.Laws.CopyOwn
import Derived.Deep.OwnRows
namespace Go.Proofs.Qxb6603496a
open Go.RowKit

theorem info5 : (Try.prog.info? 5).map (fun i => (i.zero, i.size, i.bytes)) = some (some (.int .u8 0), 1, 1) := by kernel_rfl
theorem size5 : (Try.prog.info? 5).map (·.size) = some 1 := by kernel_rfl

/-- 'make([]byte, n)': a new row. -/
theorem make_run (n : Nat) (hn : n ≤ 65536) : ∃ cur : List Value, cur.length = n ∧ ∀ w, (Instr.makeSlice 22 (.int .i64 (n : Int)) (.int .i64 (n : Int))).run Try.prog w = .ok (.slice (some ⟨w.heap.size, 0, none⟩) n n) (w.alloc (.cells cur.toArray 5)) :=
  ⟨(madeCells #[.int .u8 0] n).toList, by rw [Array.length_toList, size_madeCells], fun w => by
    rw [Array.toArray_toList]
    exact run_make_row' (P := Try.prog) 22 5 (.int .u8 0) 1 Try.underlying22 info5 rfl .i64 .i64 n (by omega) (by omega) w⟩

theorem heap_new (w : World) (o : Obj) : (w.alloc o).heap[w.heap.size]? = some o := by simp [World.alloc, -World.alloc_eq]

/-- The bytes as cells. -/
def byteVals (l : List UInt8) : List Value := l.map fun b => .int .u8 (b.toNat : Int)

theorem own_cells {w : World} {g : Nat} {cur : List Value} {l : List UInt8} (hc : cur.length = l.length) (h : w.heap[g]? = some (.cells (splice cur 0 (byteVals l)).toArray 5 (0, 0))) :
    g < w.heap.size ∧ ∀ i (hi : i < l.length), w.cell? ⟨g, i, none⟩ = some (.int .u8 ((l[i]'hi).toNat : Int)) := by
  have e : splice cur 0 (byteVals l) = byteVals l := by
    unfold splice byteVals
    rw [List.take_zero, List.nil_append, List.drop_eq_nil_of_le (by simp; omega), List.append_nil]
  rw [e] at h
  refine ⟨(Array.getElem?_eq_some_iff.1 h).1, fun i hi => ?_⟩
  simp [World.cell?, h, byteVals, hi]

theorem str_n (fn : ByteArray) (g n : Nat) (l : List UInt8) (w : World) (hn : l.length = n) (hsrc : ∀ i (h : i < l.length), w.cell? ⟨g, i, none⟩ = some (.int .u8 ((l[i]'h).toNat : Int))) (hb : g < w.heap.size)
    (hf : fn.size ≤ 65536) (hl : n ≤ 65536) :
    Calls Try.prog 6 #[.agg #[.string fn, .slice (some ⟨g, 0, none⟩) n n]] w fun e w' => e = .returned (.string (txt fn l)) ∧ Below w.heap.size w w' := by
  subst hn
  exact str_some fn g 0 l.length l w (fun i h => by rw [Nat.zero_add]; exact hsrc i h) hb hf hl

theorem ext_of {a b : ByteArray} (h : a.data.toList = b.data.toList) : a = b := by
  obtain ⟨⟨l⟩⟩ := a
  obtain ⟨⟨m⟩⟩ := b
  cases h
  rfl

theorem at_of (r : ByteArray) (i : Nat) (c : UInt8) (h : r.data.toList[i]? = some c) (hi : i < r.size) : r[i].toNat = c.toNat := by
  rw [List.getElem?_eq_getElem (by rw [← Lib.size_eq]; exact hi)] at h
  have e : r[i] = c := Option.some.inj h
  rw [e]

theorem txt_list (fn : ByteArray) (l : List UInt8) : (txt fn l).data.toList = fn.data.toList ++ 45 :: Lib.Hx.encode l := by
  simp [txt]

/-- What the law reads in the text. -/
theorem txt_facts (fn : ByteArray) (l : List UInt8) :
    (txt fn l).size = fn.size + 1 + 2 * l.length ∧ (txt fn l).extract 0 fn.size = fn ∧ (∀ h : fn.size < (txt fn l).size, (txt fn l)[fn.size].toNat = 45) ∧
      ∀ k (hk : k < l.length) (h1 : fn.size + 1 + 2 * k < (txt fn l).size) (h2 : fn.size + 2 + 2 * k < (txt fn l).size), (txt fn l)[fn.size + 1 + 2 * k].toNat = (Lib.Hx.digit (l[k].toNat / 16)).toNat ∧ (txt fn l)[fn.size + 2 + 2 * k].toNat = (Lib.Hx.digit (l[k].toNat % 16)).toNat := by
  have hl := txt_list fn l
  generalize txt fn l = s at *
  refine ⟨?_, ext_of ?_, fun h => ?_, fun k hk h1 h2 => ?_⟩
  · rw [Lib.size_eq, hl, Lib.size_eq fn]
    simp only [List.length_append, List.length_cons, Lib.Hx.encode_length]
    omega
  · rw [Lib.extract_data, hl, List.drop_zero, Nat.sub_zero, Lib.size_eq]
    exact List.take_left
  · exact at_of s _ 45 (by rw [hl, Lib.size_eq, List.getElem?_append_right (Nat.le_refl _), Nat.sub_self]; rfl) h
  · obtain ⟨e1, e2⟩ := Lib.Hx.encode_at l k l[k] (List.getElem?_eq_getElem hk)
    refine ⟨at_of s _ _ ?_ h1, at_of s _ _ ?_ h2⟩
    · rw [hl, List.getElem?_append_right (by rw [← Lib.size_eq]; omega), ← Lib.size_eq, show fn.size + 1 + 2 * k - fn.size = 2 * k + 1 from by omega, List.getElem?_cons_succ]
      exact e1
    · rw [hl, List.getElem?_append_right (by rw [← Lib.size_eq]; omega), ← Lib.size_eq, show fn.size + 2 + 2 * k - fn.size = 2 * k + 1 + 1 from by omega, List.getElem?_cons_succ]
      exact e2

theorem digit_facts : ∀ d, d < 16 → (d < 10 ∧ (Lib.Hx.digit d).toNat = 48 + d) ∨ (10 ≤ d ∧ (Lib.Hx.digit d).toNat = 87 + d) := by decide

/-- 'b1LowerHexDigit' at a digit. -/
theorem lower_digit (d : Nat) (h : d < 16) (w : World) :
    Calls Try.prog 7 #[.int .u8 ((Lib.Hx.digit d).toNat : Int)] w fun e w' => e = .returned (.tuple #[.int .u8 (d : Int), .bool true]) ∧ w' = w := by
  have hd := digit_facts d h
  generalize (Lib.Hx.digit d).toNat = c at *
  rcases hd with ⟨h1, hc⟩ | ⟨h1, hc⟩
  · have c1 : 48 ≤ (c : Int) := by omega
    have c2 : (c : Int) ≤ 57 := by omega
    have Hc : Hid ((c : Int) - 48 = (d : Int)) := by show _ = _; omega
    clear hc
    go_enter Try.func7, Try.ntmps7
    go_wp2
    go_ret2
    exact ⟨by rw [← Hc.out]; rfl, rfl⟩
  · have c1 : 97 ≤ (c : Int) := by omega
    have c2 : (c : Int) ≤ 102 := by omega
    have Hc : Hid ((c : Int) - 97 + 10 = (d : Int)) := by show _ = _; omega
    clear hc
    go_enter Try.func7, Try.ntmps7
    go_wp2
    go_ret2
    exact ⟨by rw [← Hc.out]; rfl, rfl⟩

set_option maxHeartbeats 2000000 in
set_option maxRecDepth 100000 in
theorem dec_some (fn : ByteArray) (x : Addr) (n cap : Nat) (l : List UInt8) (w : World) (hn : l.length = n) (hf : fn.size ≤ 65536) (hl : n ≤ 65536)
    (hsrc : ∀ i (h : i < l.length), w.cell? (x.add i) = some (.int .u8 ((l[i]'h).toNat : Int))) :
    Calls Try.prog 3 #[.string fn, .slice (some x) n cap] w fun e w' => e = .returned (.bool true) ∧ Below w.heap.size w w' := by
  obtain ⟨cur, hcur, hmk⟩ := make_run n hl
  obtain ⟨cs, hcs⟩ : ∃ cs, cs = byteVals l := ⟨_, rfl⟩
  have Hcs : Hid (cs.length = n ∧ (∀ j v, cs[j]? = some v → w.cell? (x.add j) = some v) ∧ ∀ v ∈ cs, v.oneCell' = true) := by
    subst hcs
    refine ⟨by simp [byteVals, hn], fun j v hj => ?_, fun v hv => ?_⟩
    · have hj' : j < l.length := by have := (List.getElem?_eq_some_iff.1 hj).1; simpa [byteVals] using this
      rw [hsrc j hj', ← hj]
      simp [byteVals, hj']
    · obtain ⟨b, _, rfl⟩ := List.mem_map.1 hv; rfl
  have Hn := Lib.hid hn
  have Hcur := Lib.hid hcur
  have Hcse := Lib.hid hcs
  clear hcs hsrc hn hcur
  go_enter Try.func3, Try.ntmps3
  go_wp2_with (first | go_in | (refine wpList_copy_splice rfl (.tmp 29) (.tmp 30) 22 22 rfl 5 Try.underlying22 size5 (some ⟨w.heap.size, 0, none⟩) (some x) n n n cap rfl rfl w.heap.size 0 cur 5 ?hg cs ?hn ?hpos ?hfit ?h1 w.heap.size w ?hb (Nat.le_refl _) ?_))
  case hg => exact heap_new w _
  case hn => rw [Hcs.out.1]; exact (Nat.min_self n).symm
  case hpos => exact fun _ j v hj => cell_later ((Below.refl _ w).alloc (Nat.le_refl _) _) (Hcs.out.2.1 j v hj)
  case hfit => rw [Hcs.out.1, Hcur.out]; omega
  case h1 => exact Hcs.out.2.2
  case hb => exact (Below.refl _ w).alloc (Nat.le_refl _) _
  intro w2 HG2 hB2
  obtain ⟨hg2, hc2⟩ := own_cells (w := w2) (g := w.heap.size) (cur := cur) (l := l) (by rw [Hcur.out, Hn.out]) (by rw [← Hcse.out]; exact HG2.out)
  have hb2 := hB2
  have Hc2 := Lib.hid hc2
  clear HG2 Hcs Hcur Hcse hc2 hmk hB2
  have T := txt_facts fn l
  have hS : ∀ w3, Below w.heap.size w w3 → (∀ i (h : i < l.length), w3.cell? ⟨w.heap.size, i, none⟩ = some (.int .u8 ((l[i]'h).toNat : Int))) → w.heap.size < w3.heap.size →
      Calls Try.prog 6 #[.agg #[.string fn, .slice (some ⟨w.heap.size, 0, none⟩) n n]] w3 fun e w' => e = .returned (.string (txt fn l)) ∧ Below w3.heap.size w3 w' := fun w3 _ h1 h2 => str_n fn w.heap.size n l w3 Hn.out h1 h2 hf hl
  generalize txt fn l = s at *
  obtain ⟨ts, tx, tc, td⟩ := T
  rw [Hn.out] at ts
  have Ts := Lib.hid ts
  have Td := Lib.hid td
  have s1 : ((s.size : Int) != (fn.size : Int) + 1 + 2 * (n : Int)) = false := by
    rw [bne_eq_false_iff_eq]; omega
  have s2 : fn.size < s.size := by omega
  have tc' : ((s[fn.size].toNat : Int) != 45) = false := by rw [tc s2]; rfl
  clear ts td tc
  go_wp2_with fail
  refine (hS _ ?_ ?_ ?_).mono ?_
  · go_grown
  · intro i hi
    exact (((Below.refl w2.heap.size w2).alloc (Nat.le_refl _) _).cell (p := ⟨w.heap.size, i, none⟩) hg2).trans (Hc2.out i hi)
  · simp; omega
  rintro e w4 ⟨rfl, hb4⟩
  go_wp2_with fail
  have Hc4 : Hid (∀ i (h : i < l.length), w4.cell? ⟨w.heap.size, i, none⟩ = some (.int .u8 ((l[i]'h).toNat : Int))) := fun i hi =>
    (hb4.cell (p := ⟨w.heap.size, i, none⟩) (by simp; omega)).trans ((((Below.refl w2.heap.size w2).alloc (Nat.le_refl _) _).cell (p := ⟨w.heap.size, i, none⟩) hg2).trans (Hc2.out i hi))
  have HB : Hid (Below w.heap.size w w4) := ((hb2.alloc hb2.size _).trans (hb4.mono (by simp; omega)))
  clear hS hb4 hb2 Hc2 s1 tc' tx
  go_loop [9] (fun i => ∃ k : Nat, k ≤ n ∧ i = .int .i64 k) (fun i => n - (intOf i).toNat)
  case atStart => exact ⟨0, Nat.zero_le _, rfl⟩
  case round =>
    obtain ⟨k, hk, rfl⟩ := hrel
    by_cases hlt : k < n
    · have hkl : k < l.length := by rw [Hn.out]; exact hlt
      have i1 : fn.size + 1 + 2 * k < s.size := by have := Ts.out; omega
      have i2 : fn.size + 2 + 2 * k < s.size := by have := Ts.out; omega
      obtain ⟨e1, e2⟩ := Td.out k hkl i1 i2
      have hc := Hc4.out k hkl
      have hb256 := l[k].toNat_lt
      generalize l[k].toNat = z at *
      have hC1 := lower_digit (z / 16) (by omega)
      have hC2 := lower_digit (z % 16) (by omega)
      rw [← e1] at hC1
      rw [← e2] at hC2
      have hz : (z : Int) = ((z / 16 : Nat) : Int) * 16 + ((z % 16 : Nat) : Int) := by omega
      rw [hz] at hc
      have h16 : z / 16 < 16 := by omega
      have l16 : z % 16 < 16 := by omega
      generalize z / 16 = hi at *
      generalize z % 16 = lo at *
      have hi0 : (hi : Int) ≤ 15 := by omega
      have lo0 : (lo : Int) ≤ 15 := by omega
      clear e1 e2 hz hb256 h16 l16
      go_wp2_with fail
      refine (hC1 _).mono ?_
      rintro e w5 ⟨rfl, rfl⟩
      go_wp2_with fail
      refine (hC2 _).mono ?_
      rintro e w6 ⟨rfl, rfl⟩
      go_wp2
      exact ⟨⟨k + 1, by omega, by go_num⟩, by simp [intOf]; omega⟩
    · go_wp2
      go_ret
      exact ⟨rfl, HB.out⟩

set_option maxHeartbeats 1000000 in
set_option maxRecDepth 100000 in
theorem dec_nil (fn : ByteArray) (w : World) (hf : fn.size ≤ 65536) :
    Calls Try.prog 3 #[.string fn, .slice none 0 0] w fun e w' => e = .returned (.bool true) ∧ Below w.heap.size w w' := by
  have T := txt_facts fn []
  have hS := fun w => str_nil fn w hf
  generalize txt fn [] = s at *
  obtain ⟨ts, tx, tc, -⟩ := T
  rw [List.length_nil] at ts
  have s1 : ((s.size : Int) != (fn.size : Int) + 1) = false := by
    rw [bne_eq_false_iff_eq]; omega
  have s2 : fn.size < s.size := by omega
  have tc' : ((s[fn.size].toNat : Int) != 45) = false := by rw [tc s2]; rfl
  clear ts tc
  go_enter Try.func3, Try.ntmps3
  go_wp2_with (first | (go_at_call 6; refine (hS _).mono ?_; rintro e w4 ⟨rfl, hb4⟩) | go_in)
  go_loop [9] (fun i => i = .int .i64 0) (fun _ => 0)
  case atStart => rfl
  case round =>
    subst hrel
    go_wp2
    go_ret
    exact ⟨rfl, ((Below.refl _ w).alloc (Nat.le_refl _) _).trans (hb4.mono (by simp))⟩

set_option maxHeartbeats 400000 in
set_option maxRecDepth 100000 in
theorem dec_big (fn : ByteArray) (a : Option Addr) (n cap : Nat) (w : World) (hf : fn.size ≤ maxLen) (hn : n ≤ maxLen) (h : 65536 < fn.size ∨ fn.size ≤ 65536 ∧ 65536 < n) :
    Calls Try.prog 3 #[.string fn, .slice a n cap] w fun e w' => e = .returned (.bool true) ∧ Below w.heap.size w w' := by
  unfold maxLen at hf hn
  rcases h with h | ⟨h0, h⟩
  all_goals
    go_enter Try.func3, Try.ntmps3
    go_wp2
    all_goals (go_ret; exact ⟨rfl, Below.refl _ _⟩)

/-- A row of bytes as numbers, as bytes. -/
theorem bytes_of (zs : List Int) (len : Nat) (hl : len ≤ zs.length) (hwf : ∀ n ∈ zs, (Lit.int .u8 n).wf = true) :
    ∃ l : List UInt8, l.length = len ∧ ∀ i (h : i < l.length), zs.getD i 0 = ((l[i]'h).toNat : Int) := by
  refine ⟨(zs.take len).map fun z => UInt8.ofNat z.toNat, by simp; omega, fun i h => ?_⟩
  have hi : i < zs.length := by simp at h; omega
  have hw := hwf zs[i] (List.getElem_mem _)
  have hb : 0 ≤ zs[i] ∧ zs[i] ≤ 255 := by
    simp [Lit.wf, IntKind.min, IntKind.max, IntKind.signed, IntKind.bits] at hw
    omega
  have e : zs.getD i 0 = zs[i] := by simp [List.getD, hi]
  rw [e]
  simp only [List.getElem_map, List.getElem_take, UInt8.toNat_ofNat']
  omega

end Go.Proofs.Qxb6603496a
