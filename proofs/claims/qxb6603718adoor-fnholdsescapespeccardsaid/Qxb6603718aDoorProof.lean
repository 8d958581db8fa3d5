/-
  'zzlaws_pkg_access_b1.FnHoldsEscapeSpec': the row (its listed variables laid) and the tied card.
-/
import Derived.Test.Qxb6603718aDoorWalks
import Derived.Test.Qxb6603718aDoorTie
import Derived.Test.Qxb6603718aDoorCards
import Derived.ProofKit
import Derived.LaidMore
import Derived.OpenShut
import Derived.Stop.Joined
import Derived.Stop.LaidErr
import Derived.SevenTiedAt
namespace Go.Proofs.Qxb6603718aDoor
open Go.ChangeShapes Go.WideShapes Go.ChangeAt Go.RowKit
open Go.ChangeMaps (open_string shut_string)

theorem own : ownKnob Tryd.prog.godebug = none := by kernel_rfl
theorem gES : Tryd.prog.globalNamed "strconv.ErrSyntax" = some 6 := by kernel_rfl
theorem gESType : (Tryd.prog.globals[6]?).map (·.type) = some 74 := by kernel_rfl
theorem cells120 : Tryd.prog.cellsOf 120 = 1 := by kernel_rfl
theorem cells9 : Tryd.prog.cellsOf 9 = 1 := by kernel_rfl
theorem row118 (u : TypeId) (h : Tryd.prog.typeName? 3 u = Tryd.prog.typeName? 3 118) : u = 118 :=
  typeName_ptr_named (nm := "errors.errorString") (by kernel_rfl) (by kernel_rfl) (by decide) u (h.trans (by kernel_rfl))

/-- The door's own heap meets the condition. -/
theorem door_met (os : Os) (args : Array Value) : laidMetH Tryd.prog Rows.fnHoldsEscapeSpecRow.laid ((World.doorLaid Tryd.prog 400 os).forCall (fun _ _ => 0) ⟨#[], args, []⟩).memory :=
  laidMetH_of_parts3 (fuel := 8) (laidMet_of_run' 8 (by kernel_rfl) (by kernel_rfl)) (by kernel_rfl) (by kernel_rfl)

/-- What the condition gives the walk: the library's variable holds an error. -/
theorem of_laid {W : World} (h : laidMetH Tryd.prog Rows.fnHoldsEscapeSpecRow.laid W) : ∃ tp pv, W.cell? ⟨6, 0, none⟩ = some (.iface tp pv) := by
  rw [MakeChecks.laidMetH_plain _ _ _ (by kernel_rfl)] at h
  obtain ⟨a0, s0, hv0, -, -, -⟩ := laid_sentinel h.tail.tail.tail.tail gES gESType Tryd.underlying74 (fun u h => row118 u (h.trans (by kernel_rfl))) Tryd.underlying118 Tryd.underlying120 rfl rfl Tryd.underlying9 cells120 cells9
  exact ⟨_, _, by have h0 := World.var?_cell gES hv0 0; simpa using h0⟩

set_option maxRecDepth 100000 in
theorem lifted (os : Os) (started : os.Started) (H : Type) (enc : TypeId × Value → H) :
    ReturnsInHanded {} Tryd.checked os 5 .any (fun w args => (Rows.fnHoldsEscapeSpecSpec.pre enc Tryd.prog Tryd.f5 [] false w args ∧ laidMetH Tryd.prog Rows.fnHoldsEscapeSpecRow.laid w) ∧ sizedMet enc Tryd.prog Tryd.f5 (OpenSpec.ofChange Rows.fnHoldsEscapeSpecSpec) false w args)
      (Rows.fnHoldsEscapeSpecSpec.post enc Tryd.prog Tryd.f5 false true false false) := by
  refine returnsInHanded_of_change_and (C := Tryd.checked) (X := fun w _ => laidMetH Tryd.prog Rows.fnHoldsEscapeSpecRow.laid w) (fun _ _ _ hh h => h.of_heap hh) own started (by kernel_rfl) Tryd.func5
    (ChangeSpec.witness_shaped (enc := enc) (C := Tryd.checked) (os := os) (X := fun w _ => laidMetH Tryd.prog Rows.fnHoldsEscapeSpecRow.laid w) false (World.doorLaid Tryd.prog 400 os) #[.string ByteArray.empty] 8 rfl (World.shaped_of_RefB (by kernel_rfl) (by kernel_rfl)) (by kernel_rfl) (by kernel_rfl) (by kernel_rfl) (door_met os _)) ?_
  intro W base args ds gs before hval0 hW _ _ hL _
  have hval : ∀ (j : Nat) t v, Tryd.f5.params[j]? = some t → args[j]? = some v → Value.okWide Tryd.prog W .any base t v := hval0
  have hW' := hW
  obtain ⟨p, q, hA0, hV, rfl, hfz, hnd⟩ := hW
  have hA : DataW.TrodAll enc Tryd.prog W 0 (fun _ => true) true Tryd.f5.params.toList args.toList ds p := hA0
  rw [Tryd.params5] at hA hval
  obtain ⟨v0, d0, rfl, rfl, h0⟩ := trodAll_one hA
  obtain ⟨rfl, rfl⟩ := trodVars_none hV
  obtain ⟨s, rfl, rfl, rfl, hs⟩ := open_string Tryd.underlying9 (hval 0 9 v0 rfl rfl) h0
  obtain ⟨tp, pv, hc⟩ := of_laid hL
  clear hA0 hval0
  simp only [List.append_nil] at hW'
  refine (law_any s tp pv W hs hc).mono fun e W' ⟨he, hb⟩ => ?_
  subst he
  refine ⟨_, rfl, _, _, _, [], [], [], hW', ?_, ?_, rfl, hb.frame _, fun h => by cases h⟩
  · exact trodAll_mk1 (shut_bool Tryd.underlying4 _)
  · exact trodAll_mk1 (shut_string Tryd.underlying9 hs)

theorem row_holds : Rows.FnHoldsEscapeSpecSaid :=
  OpenClaim.holds_of_wide 5 Tryd.f5 rfl rfl rfl rfl rfl rfl rfl ⟨rfl, rfl, rfl, rfl, rfl⟩ rfl rfl rfl rfl rfl (by kernel_rfl) Tryd.func5 (by kernel_rfl)
    (of_decide_eq_true (by kernel_rfl)) (by unfold Func.isWrapper; first | (rw [if_pos (by decide +kernel)]; kernel_rfl) | (rw [if_neg (by decide +kernel)]; exact ⟨rfl, rfl⟩))
    (fun os started H enc _ => lifted os started H enc)

theorem proved : Rows.FnHoldsEscapeSpecCardSaid :=
  Claim7.holds_tied_plain_at .later [] [.data, .data, .data, .sentinel, .sentinel] true Rows.fnHoldsEscapeSpecCard.stood.harness true
    row_holds (fun _ h => by cases h) (by kernel_rfl) (fun _ h => by cases h) fnHoldsEscapeSpec_row_tie rfl ⟨rfl, rfl⟩ (by kernel_rfl) rfl
    (fun f fn hf hfn => by
      obtain rfl : f = 5 := Option.some.inj ((show Tryd.prog.funcNamed Rows.fnHoldsEscapeSpecRow.func = some 5 by kernel_rfl).symm.trans hf) |>.symm
      obtain rfl : fn = Tryd.f5 := (Option.some.inj (Tryd.func5.symm.trans hfn)).symm
      exact ⟨by kernel_rfl, fun j t ht => by
        rw [Tryd.params5] at ht
        have hm : t ∈ [9] := by simpa using Array.mem_of_getElem? ht
        have hall : ([9].all fun u => !Tryd.prog.wantsStandIn u) = true := by kernel_rfl
        exact (show Tryd.prog.wantsStandIn t = false by simpa using List.all_eq_true.1 hall t hm)⟩)
    (by kernel_rfl)

end Go.Proofs.Qxb6603718aDoor
