/-
  DERIVED. GIVEN WITH THE SEED: THE CARDS: each row of Qxb6604448aFmtRows.lean that lists a variable, with what it lists TIED to the program's text (the seventh form; the later family's looks); each row that meets fmt, with fmt's text TOLD by the authors' own Lean function (tested against real Go, not proved from fmt's source: count such statements apart). THE CARD IS WHAT COUNTS. Prove the row's statement (the work); the ties are given (Qxb6604448aFmtTie.lean); close each card by the builder's one call (the guide's Derived/Test/ToyasCard.lean, 'card_holds'). Laid BY PROGRAM, IN A SANDBOX (cutbox-door.mjs). By AI agents, Wed Nov 11 2026. No macro, syntax, notation, axiom, sorry.
-/
import Derived.Test.Qxb6604448aFmtRows
import GoSem.ClaimSeven
namespace Go.Proofs.Qxb6604448aFmt
namespace Rows

/-- THE TOLD CARD OF 'zzlaws_workspace_b1.FnInputErrorTextReadsBack'. -/
def fnInputErrorTextReadsBackCard : Claim7 := { stood := { row := fnInputErrorTextReadsBackRow, standIns := [], harness := (true, "359be69c97d2cc1f62e0aa0bc778cef974dab281b9c089d56ae8738a3d9c8f17"), looks := false }, told := true, goes := false }
def FnInputErrorTextReadsBackToldSaid : Prop := Claim7.holds Tryf.pinned (.plain (OpenSpec.ofChange fnInputErrorTextReadsBackSpec)) fnInputErrorTextReadsBackCard
/-- ITS FALSE NEIGHBOUR. Refute it at one input. -/
def FnInputErrorTextReadsBackToldWrongFalsely : Prop := Claim7.holds Tryf.pinned (.plain (OpenSpec.ofChange fnInputErrorTextReadsBackWrong)) fnInputErrorTextReadsBackCard
end Rows
end Go.Proofs.Qxb6604448aFmt
