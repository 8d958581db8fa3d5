/-
  'zzlaws_limiter_b1.FnValidateAcceptsExactlyUsableLimits': the told card. The plain law on float order, the row's frame over the stop (fmt.errorf told), the card.
-/
import Derived.Test.Qxb6604567aFmtWalks
import Derived.ProofKit
import Derived.Stop.JoinedAt
import Derived.Stop.JoinedTold
import Derived.SevenToldRow
import Derived.Laws.Cover2
namespace Go.Proofs.Qxb6604567aFmt
open Go.ChangeShapes Go.WideShapes Go.ChangeAt Go.RowKit Go.Kit
open Go.Extern.Stop Go.Stop Go.Extern

theorem own : ownKnob Tryf.prog.godebug = none := by kernel_rfl
theorem laidOut : laidOutB Tryf.pinned.checked.prog = true := by kernel_rfl
theorem stops : Tryf.pinned.checked.prog.stops = ["fmt.errorf"] := by kernel_rfl
theorem stopKnobs : Tryf.pinned.checked.prog.stopKnobs = [] := by kernel_rfl
theorem quiet (os : Os) : Stop.quiet Tryf.pinned.checked.prog os := by
  intro k hk
  rw [stopKnobs] at hk
  cases hk

/-- The greatest finite float64 is a number: what is ordered against nought is ordered against it. -/
theorem read_max : FloatKind.f64.format.read 9218868437227405311 = .number false 9007199254740991 971 := by decide +kernel
theorem order_some (x : Nat) (h : (FloatKind.f64.format.order x 0 == some .gt) = true) : ∃ o, FloatKind.f64.format.order x 9218868437227405311 = some o := by
  have h0 : FloatKind.f64.format.order x 0 = some .gt := by simpa using h
  unfold Ieee.Format.order at h0 ⊢
  rw [read_max]
  generalize FloatKind.f64.format.read x = d at h0
  cases d with
  | nan s t => simp [Ieee.Datum.order] at h0
  | infinity s => exact ⟨_, rfl⟩
  | number s m i => exact ⟨_, rfl⟩

theorem walk_any (F : Interp) (x : Nat) (n : Int) (w : World) (hF : F.answers w.tape) :
    Calls Tryf.prog 3 #[.float .f64 x, .int .i64 n] w fun e w' => e = .returned (.bool true) ∧ Below w.heap.size w w' := by
  cases h0 : (FloatKind.f64.format.order x 0 == some .gt) with
  | false => exact walk_rate F x n w hF h0
  | true =>
    obtain ⟨o, ho⟩ := order_some x h0
    cases o with
    | gt => exact walk_inf F x n w hF h0 (by rw [ho]; rfl) (by rw [ho]; rfl) (by rw [ho]; rfl)
    | lt =>
      rcases Int.lt_or_le n 1 with hn | hn
      · exact walk_burst F x n w hF h0 (by rw [ho]; rfl) hn
      · exact walk_ok x n w h0 (by rw [ho]; rfl) (by rw [ho]; rfl) hn
    | eq =>
      rcases Int.lt_or_le n 1 with hn | hn
      · exact walk_burst F x n w hF h0 (by rw [ho]; rfl) hn
      · exact walk_ok x n w h0 (by rw [ho]; rfl) (by rw [ho]; rfl) hn

set_option maxRecDepth 100000 in
theorem lifted (os : Os) (started : os.Started) (H : Type) (enc : TypeId × Value → H) :
    ReturnsInTold none {} Tryf.checked os 3 .any Input.okWide ((OpenSpec.ofChange Rows.fnValidateAcceptsExactlyUsableLimitsSpec).preRow enc Tryf.prog Tryf.f3 [] false []) (fun F => ((OpenSpec.ofChange Rows.fnValidateAcceptsExactlyUsableLimitsSpec).at F.told).post enc Tryf.prog Tryf.f3 false true false false) (aloneAtReturn Tryf.prog) nothingAlways := by
  refine returnsInTold_of_row (C := Tryf.checked) (s := OpenSpec.ofChange Rows.fnValidateAcceptsExactlyUsableLimitsSpec) (by kernel_rfl) own started (by kernel_rfl) Tryf.func3
    (OpenSpec.witness_stopped (enc := enc) (C := Tryf.checked) false ⟨#[], #[.float .f64 0, .int .i64 1], []⟩ 8 (by kernel_rfl) (by kernel_rfl) (by kernel_rfl) (by kernel_rfl)) ?_
  intro F W base args ds gs before _ hF hval0 hW _ _ _ _ _
  have hval : ∀ (j : Nat) t v, Tryf.f3.params[j]? = some t → args[j]? = some v → Value.okWide Tryf.prog W .any base t v := hval0
  have hW' := hW
  obtain ⟨p, q, hA0, hV, rfl, hfz, hnd⟩ := hW
  have hA : DataW.TrodAll enc Tryf.prog W 0 (fun _ => true) true Tryf.f3.params.toList args.toList ds p := hA0
  rw [Tryf.params3] at hA hval
  obtain ⟨v0, v1, d0, d1, p0, p1, rfl, rfl, rfl, h0, h1⟩ := trodAll_two hA
  obtain ⟨rfl, rfl⟩ := trodVars_none hV
  obtain ⟨x, rfl, rfl, rfl, wx⟩ := open_float Tryf.underlying22 (hval 0 22 v0 rfl rfl) h0
  obtain ⟨n, rfl, rfl, rfl, wn⟩ := open_int Tryf.underlying3 (hval 1 3 v1 rfl rfl) h1
  clear hA0 hval0
  refine (walk_any F.told x n W hF).mono fun e W' ⟨he, hb⟩ => ?_
  subst he
  refine ⟨_, rfl, _, _, _, [], [], [], hW', ?_, ?_, rfl, hb.frame _, fun h => by cases h⟩
  · exact trodAll_mk1 (shut_bool Tryf.underlying4 _)
  · exact trodAll_mk2 (shut_float Tryf.underlying22 wx) (shut_int Tryf.underlying3 wn)

theorem proved : Rows.FnValidateAcceptsExactlyUsableLimitsToldSaid :=
  Claim7.holds_of_told_any 3 Tryf.f3 "fmt.errorf" [] [] _ _ _ (by kernel_rfl) rfl rfl rfl laidOut (by kernel_rfl) rfl ⟨rfl, rfl, rfl, rfl, rfl, rfl, rfl⟩ rfl rfl (by kernel_rfl) (by kernel_rfl) Tryf.func3 (by kernel_rfl)
    (of_decide_eq_true (by kernel_rfl)) (of_decide_eq_true (by kernel_rfl)) stops.symm rfl stopKnobs.symm (by kernel_rfl)
    (by kernel_rfl) (by kernel_rfl) (by kernel_rfl) (by kernel_rfl) (by kernel_rfl) (by kernel_rfl) (by kernel_rfl) (by kernel_rfl) (by kernel_rfl) rfl (by kernel_rfl) rfl rfl
    rfl rfl
    rfl (by kernel_rfl) (by kernel_rfl) (by kernel_rfl) (by decide) (by kernel_rfl)
    (OpenClaim.moreEntering_of (by kernel_rfl) (by kernel_rfl) (by kernel_rfl) (by kernel_rfl) (by kernel_rfl) (by kernel_rfl) (by kernel_rfl) (by kernel_rfl) (by kernel_rfl) (by kernel_rfl))
    ⟨_, WideRow.started_initial, quiet _⟩
    (fun os started _ H enc _ => lifted os started H enc)

end Go.Proofs.Qxb6604567aFmt
