/-
  'zzlaws_workspace_b1.FnInputErrorTextReadsBack': fmt's text told, the row's frame over the stop, the told card.
-/
import Derived.Test.Qxb6604448aFmtWalkNeg
import Derived.ProofKit
import Derived.Stop.JoinedAt
import Derived.Stop.Texts
import Derived.Stop.JoinedTold
import Derived.Stop.FmtTextKit
import Derived.SizedLaws
import Derived.SevenToldRow
namespace Go.Proofs.Qxb6604448aFmt
open Go.ChangeShapes Go.WideShapes Go.ChangeAt Go.RowKit Go.Kit
open Go.ChangeMaps (open_string shut_string)
open Go.Extern.Stop Go.Stop Go.Extern

theorem own : ownKnob Tryf.prog.godebug = none := by kernel_rfl
theorem laidOut : laidOutB Tryf.pinned.checked.prog = true := by kernel_rfl
theorem stops : Tryf.pinned.checked.prog.stops = Rows.fnInputErrorTextReadsBackRow.stops := by kernel_rfl
theorem stopKnobs : Tryf.pinned.checked.prog.stopKnobs = [] := by kernel_rfl
theorem quiet (os : Os) : Stop.quiet Tryf.pinned.checked.prog os := by
  intro k hk
  rw [stopKnobs] at hk
  cases hk

/-- What the format parses to. -/
theorem t_parse : (FmtText.parse [37, 115, 58, 37, 100, 58, 32, 37, 115]).map FmtText.glue = some [.verb {} 115, .lit [58], .verb {} 100, .lit [58, 32], .verb {} 115] := by rfl

theorem t_text (file : List UInt8) (line : Int) (msg : List UInt8) (hs : file.length < 2 ^ 64) (hw : (Lit.int .i64 line).wf = true) :
    FmtText.text "fmt.Sprintf" (reading file line msg) = some (file ++ 58 :: (Lib.itoa line ++ 58 :: 32 :: msg)) := by
  have hf := FmtText.operand_str_at (sh := shape9) rfl rfl file hs
  have hi := FmtText.operand_int_at (sh := shape3) (k := .i64) rfl rfl line hw
  have hm := FmtText.operand_plain_at (sh := plain32) rfl (FmtText.unpack_pack _ (by decide)) msg
  rw [reading, FmtText.text_sprintf_glued t_parse (FmtText.operands_cons hf (FmtText.operands_cons hi (FmtText.operands_cons hm FmtText.operands_nil)))]
  simp [FmtText.render, FmtText.printArg_s_str, FmtText.printArg_d _ _ hw, FmtText.printArg_s_said]

set_option maxHeartbeats 400000 in
set_option maxRecDepth 100000 in
theorem law_big (file msg : ByteArray) (line : Int) (w : World) (hf : file.size ≤ maxLen) (hm : msg.size ≤ maxLen) (h : 65536 < file.size ∨ file.size ≤ 65536 ∧ 65536 < msg.size) :
    Calls Tryf.prog 3 #[.string file, .int .i64 line, .string msg] w fun e w' => e = .returned (.bool true) ∧ Below w.heap.size w w' := by
  unfold maxLen at hf hm
  rcases h with h | ⟨h0, h⟩
  · go_enter Tryf.func3, Tryf.ntmps3
    go_wp2
    all_goals (go_ret; exact ⟨rfl, Below.refl _ _⟩)
  · go_enter Tryf.func3, Tryf.ntmps3
    go_wp2
    all_goals (go_ret; exact ⟨rfl, Below.refl _ _⟩)

theorem law_any (F : Interp) (file msg : ByteArray) (line : Int) (w : World) (hF : F.told.answers w.tape) (hf : file.size ≤ maxLen) (hm : msg.size ≤ maxLen) (hw : (Lit.int .i64 line).wf = true) :
    Calls Tryf.prog 3 #[.string file, .int .i64 line, .string msg] w fun e w' => e = .returned (.bool true) ∧ Below w.heap.size w w' := by
  by_cases h1 : file.size ≤ 65536
  · by_cases h2 : msg.size ≤ 65536
    · have hg : (FmtStop.textOf (F.told "fmt.Sprintf" (reading file.data.toList line msg.data.toList) 0)).data.toList = file.data.toList ++ 58 :: (Lib.itoa line ++ 58 :: 32 :: msg.data.toList) := by
        rw [textOf_list]
        refine told_string F (t_text file.data.toList line msg.data.toList (by rw [← Lib.size_eq]; omega) hw) ?_
        have := FmtText.itoa_length_le hw
        simp only [List.length_append, List.length_cons, ← Lib.size_eq]
        omega
      have hb : -9223372036854775808 ≤ line ∧ line ≤ 9223372036854775807 := by
        have := hw
        simp [Lit.wf, IntKind.min, IntKind.max, IntKind.signed, IntKind.bits] at this
        omega
      rcases Int.lt_trichotomy line 0 with hl | hl | hl
      · obtain ⟨u, hu⟩ : ∃ u : Nat, line = -(u : Int) := ⟨line.natAbs, by omega⟩
        subst hu
        exact law_neg F.told file msg u w hF h1 h2 (by omega) (by omega) (by rw [hg, Lib.itoa, if_pos hl]; simp)
      · subst hl
        exact law_zero file msg w h1 h2
      · obtain ⟨u, hu⟩ : ∃ u : Nat, line = (u : Int) := ⟨line.toNat, by omega⟩
        subst hu
        exact law_pos F.told file msg u w hF h1 h2 (by omega) (by omega) (by rw [hg, Lib.itoa, if_neg (by omega)]; simp)
    · exact law_big file msg line w hf hm (Or.inr ⟨h1, by omega⟩)
  · exact law_big file msg line w hf hm (Or.inl (by omega))

set_option maxRecDepth 100000 in
theorem lifted (os : Os) (started : os.Started) (H : Type) (enc : TypeId × Value → H) :
    ReturnsInTold none {} Tryf.checked os 3 .any Input.okWide ((OpenSpec.ofChange Rows.fnInputErrorTextReadsBackSpec).preRow enc Tryf.prog Tryf.f3 [] false []) (fun F => ((OpenSpec.ofChange Rows.fnInputErrorTextReadsBackSpec).at F.told).post enc Tryf.prog Tryf.f3 false true false false) (aloneAtReturn Tryf.prog) nothingAlways := by
  refine returnsInTold_of_row (C := Tryf.checked) (s := OpenSpec.ofChange Rows.fnInputErrorTextReadsBackSpec) (by kernel_rfl) own started (by kernel_rfl) Tryf.func3
    (OpenSpec.witness_stopped (enc := enc) (C := Tryf.checked) false ⟨#[], #[.string ⟨#[]⟩, .int .i64 0, .string ⟨#[]⟩], []⟩ 8 (by kernel_rfl) (by kernel_rfl) (by kernel_rfl) (by kernel_rfl)) ?_
  intro F W base args ds gs before _ hF hval0 hW _ _ _ _ _
  have hval : ∀ (j : Nat) t v, Tryf.f3.params[j]? = some t → args[j]? = some v → Value.okWide Tryf.prog W .any base t v := hval0
  have hW' := hW
  obtain ⟨p, q, hA0, hV, rfl, hfz, hnd⟩ := hW
  have hA : DataW.TrodAll enc Tryf.prog W 0 (fun _ => true) true Tryf.f3.params.toList args.toList ds p := hA0
  rw [Tryf.params3] at hA hval
  obtain ⟨v0, v1, v2, d0, d1, d2, p0, p1, p2, rfl, rfl, rfl, h0, h1, h2⟩ := trodAll_three hA
  obtain ⟨rfl, rfl⟩ := trodVars_none hV
  obtain ⟨file, rfl, rfl, rfl, wf⟩ := open_string Tryf.underlying9 (hval 0 9 v0 rfl rfl) h0
  obtain ⟨line, rfl, rfl, rfl, wn⟩ := open_int Tryf.underlying3 (hval 1 3 v1 rfl rfl) h1
  obtain ⟨msg, rfl, rfl, rfl, wm⟩ := open_string Tryf.underlying9 (hval 2 9 v2 rfl rfl) h2
  clear hA0 hval0
  refine (law_any F file msg line W hF wf wm wn).mono fun e W' ⟨he, hb⟩ => ?_
  subst he
  refine ⟨_, rfl, _, _, _, [], [], [], hW', ?_, ?_, rfl, hb.frame _, fun h => by cases h⟩
  · exact trodAll_mk1 (shut_bool Tryf.underlying4 _)
  · exact trodAll_mk3 (shut_string Tryf.underlying9 wf) (shut_int Tryf.underlying3 wn) (shut_string Tryf.underlying9 wm)

theorem proved : Rows.FnInputErrorTextReadsBackToldSaid :=
  Claim7.holds_of_told_any 3 Tryf.f3 _ [] [] _ _ _ (by kernel_rfl) rfl rfl rfl laidOut (by kernel_rfl) rfl ⟨rfl, rfl, rfl, rfl, rfl, rfl, rfl⟩ rfl rfl (by kernel_rfl) (by kernel_rfl) Tryf.func3 (by kernel_rfl)
    (of_decide_eq_true (by kernel_rfl)) (of_decide_eq_true (by kernel_rfl)) stops.symm rfl stopKnobs.symm (by kernel_rfl)
    (by kernel_rfl) (by kernel_rfl) (by kernel_rfl) (by kernel_rfl) (by kernel_rfl) (by kernel_rfl) (by kernel_rfl) (by kernel_rfl) (by kernel_rfl) rfl (by kernel_rfl) rfl rfl
    rfl rfl
    rfl (by kernel_rfl) (by kernel_rfl) (by kernel_rfl) (by decide) (by kernel_rfl)
    (OpenClaim.moreEntering_of (by kernel_rfl) (by kernel_rfl) (by kernel_rfl) (by kernel_rfl) (by kernel_rfl) (by kernel_rfl) (by kernel_rfl) (by kernel_rfl) (by kernel_rfl) (by kernel_rfl))
    ⟨_, WideRow.started_initial, quiet _⟩
    (fun os started _ H enc _ => lifted os started H enc)

end Go.Proofs.Qxb6604448aFmt
