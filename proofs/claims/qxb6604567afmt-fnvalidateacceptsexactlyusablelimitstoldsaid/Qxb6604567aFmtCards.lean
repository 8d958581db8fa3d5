/-
  DERIVED. GIVEN WITH THE SEED: THE CARDS: each row of Qxb6604567aFmtRows.lean that lists a variable, with what it lists TIED to the program's text (the seventh form; the later family's looks); each row that meets fmt, with fmt's text TOLD by the authors' own Lean function (tested against real Go, not proved from fmt's source: count such statements apart). THE CARD IS WHAT COUNTS. Prove the row's statement (the work); the ties are given (Qxb6604567aFmtTie.lean); close each card by the builder's one call (the guide's Derived/Test/ToyasCard.lean, 'card_holds'). Laid BY PROGRAM, IN A SANDBOX (cutbox-door.mjs). By AI agents, Wed Nov 11 2026. No macro, syntax, notation, axiom, sorry.
-/
import Derived.Test.Qxb6604567aFmtRows
import GoSem.ClaimSeven
namespace Go.Proofs.Qxb6604567aFmt
namespace Rows

/-- THE TOLD CARD OF 'zzlaws_limiter_b1.FnValidateAcceptsExactlyUsableLimits'. -/
def fnValidateAcceptsExactlyUsableLimitsCard : Claim7 := { stood := { row := fnValidateAcceptsExactlyUsableLimitsRow, standIns := [], harness := (true, "cc46e9258dd418a58cd1857838f750313536ab31e86b6d4d52892113ad9e8743"), looks := false }, told := true, goes := false }
def FnValidateAcceptsExactlyUsableLimitsToldSaid : Prop := Claim7.holds Tryf.pinned (.plain (OpenSpec.ofChange fnValidateAcceptsExactlyUsableLimitsSpec)) fnValidateAcceptsExactlyUsableLimitsCard
/-- ITS FALSE NEIGHBOUR. Refute it at one input. -/
def FnValidateAcceptsExactlyUsableLimitsToldWrongFalsely : Prop := Claim7.holds Tryf.pinned (.plain (OpenSpec.ofChange fnValidateAcceptsExactlyUsableLimitsWrong)) fnValidateAcceptsExactlyUsableLimitsCard
end Rows
end Go.Proofs.Qxb6604567aFmt
