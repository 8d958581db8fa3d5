/-
  DERIVED. GIVEN WITH THE SEED: THE CARDS: each row of Qxb6603718aDoorRows.lean that lists a variable, with what it lists TIED to the program's text (the seventh form; the later family's looks); each row that meets fmt, with fmt's text TOLD by the authors' own Lean function (tested against real Go, not proved from fmt's source: count such statements apart). THE CARD IS WHAT COUNTS. Prove the row's statement (the work); the ties are given (Qxb6603718aDoorTie.lean); close each card by the builder's one call (the guide's Derived/Test/ToyasCard.lean, 'card_holds'). Laid BY PROGRAM, IN A SANDBOX (cutbox-door.mjs). By AI agents, Wed Nov 11 2026. No macro, syntax, notation, axiom, sorry.
-/
import Derived.Test.Qxb6603718aDoorRows
import GoSem.ClaimSeven
namespace Go.Proofs.Qxb6603718aDoor
namespace Rows

/-- THE TIED CARD OF 'zzlaws_pkg_access_b1.FnRuleMatchesSpec'. -/
def fnRuleMatchesSpecCard : Claim7 := { stood := { row := fnRuleMatchesSpecRow, standIns := [], harness := (true, "580a4c1afa1f3c8901c9339878d81394bdd0bd0b87e57b2af8f55e034b433308"), looks := true }, kinds := [], alts := [], laidByText := true, laidKinds := [.data, .data, .data, .pinned, .pinned], laidTests := true, laidLooks := .later }
def FnRuleMatchesSpecCardSaid : Prop := Claim7.holds Tryd.pinned (.plain (OpenSpec.ofChange fnRuleMatchesSpecSpec)) fnRuleMatchesSpecCard

/-- THE TIED CARD OF 'zzlaws_pkg_access_b1.FnDecideSpec'. -/
def fnDecideSpecCard : Claim7 := { stood := { row := fnDecideSpecRow, standIns := [], harness := (true, "580a4c1afa1f3c8901c9339878d81394bdd0bd0b87e57b2af8f55e034b433308"), looks := true }, kinds := [], alts := [], laidByText := true, laidKinds := [.data, .data, .data, .pinned, .pinned], laidTests := true, laidLooks := .later }
def FnDecideSpecCardSaid : Prop := Claim7.holds Tryd.pinned (.plain (OpenSpec.ofChange fnDecideSpecSpec)) fnDecideSpecCard

/-- THE TIED CARD OF 'zzlaws_pkg_access_b1.FnHoldsEscapeSpec'. -/
def fnHoldsEscapeSpecCard : Claim7 := { stood := { row := fnHoldsEscapeSpecRow, standIns := [], harness := (true, "580a4c1afa1f3c8901c9339878d81394bdd0bd0b87e57b2af8f55e034b433308"), looks := true }, kinds := [], alts := [], laidByText := true, laidKinds := [.data, .data, .data, .sentinel, .sentinel], laidTests := true, laidLooks := .later }
def FnHoldsEscapeSpecCardSaid : Prop := Claim7.holds Tryd.pinned (.plain (OpenSpec.ofChange fnHoldsEscapeSpecSpec)) fnHoldsEscapeSpecCard
end Rows
end Go.Proofs.Qxb6603718aDoor
