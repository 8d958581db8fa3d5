/-
  No cell of these rows narrows 'for every input' (looked for: loops, veiled, ifaces, maps, wideKeys, modest, calm, conditions, laid).
  DERIVED. THE GIVEN ROWS OF THIS SEAT. 1 by the template 'for every input the law returns true; each argument reads behind the call as it read before'; 0 by the template 'total and deterministic' (their statements: Qxb6604448aFmtTotals.lean).
  GIVEN WITH THE SEED: the statements are not yours to turn. If you find one false, say at which input.
  Laid BY PROGRAM, IN A SANDBOX (cutbox-rows.mjs): the forced cells as the released guide's own fill.sh prints them over the translation 1676393516253689… (all of the seat's roots in one cut). By AI agents, Wed Nov 11 2026. No macro, syntax, notation, axiom, sorry.
-/
import Derived.Test.Qxb6604448aFmtChecked
import GoSem.Claim
import GoSem.ClaimJoined
import GoSem.ClaimMapViews
import Derived.JoinedTies
import Derived.KernelRfl
namespace Go.Proofs.Qxb6604448aFmt
/- THE CELL 'sum', in the pinned program and in every row, IS THE sha256 OF THE DUMP (.gsa) THAT Qxb6604448aFmtProg.lean LOADS. Nothing in Lean hashes anything: it is a label: what it is worth is what the hold of that sum in a sandbox is worth. -/
noncomputable def Tryf.pinned : Pinned := { name := "qxb6604448afmt", sum := "16763935162536891daaf723d7e275877be8497dab36e4c492645acb192e9a80", checked := Tryf.checked }
namespace Rows
def none {H : Type} : Left H := { results := [], args := [] }

/-- 'zzlaws_workspace_b1.FnInputErrorTextReadsBack': WHATEVER THE INPUT: true; the input reads as it did. -/
def fnInputErrorTextReadsBackSpec : ChangeSpec := { name := "fnInputErrorTextReadsBack", fn := fun _ => fun
  | [d1, d2, d3] => { results := [.lit (.bool true)], args := [d1, d2, d3] }
  | _ => none }
def fnInputErrorTextReadsBackRow : OpenClaim := { program := "qxb6604448afmt", sum := "16763935162536891daaf723d7e275877be8497dab36e4c492645acb192e9a80", func := "example.com/earnwork/earnwork/zzlaws_workspace_b1.FnInputErrorTextReadsBack", spec := "fnInputErrorTextReadsBack", stops := ["fmt.Sprintf, its operands' methods called"], inPlace := ["fmt.Sprintf"], unfollowed := true, recurses := true, apart := false }
/-- NO THEOREM (fmt's text is open here; it may be false): for the released tool's asking of the row's closed facts alone. THE STATEMENT IS 'FnInputErrorTextReadsBackToldSaid' (Qxb6604448aFmtCards.lean). -/
def FnInputErrorTextReadsBackFormAsk : Prop := fnInputErrorTextReadsBackRow.holds Tryf.pinned (OpenSpec.ofChange fnInputErrorTextReadsBackSpec)

/-- ITS FALSE NEIGHBOUR: 'it returns false'. Refute it at one input. -/
def fnInputErrorTextReadsBackWrong : ChangeSpec := { name := "fnInputErrorTextReadsBack", fn := fun _ => fun
  | [d1, d2, d3] => { results := [.lit (.bool false)], args := [d1, d2, d3] }
  | _ => none }
def FnInputErrorTextReadsBackWrongFormAsk : Prop := fnInputErrorTextReadsBackRow.holds Tryf.pinned (OpenSpec.ofChange fnInputErrorTextReadsBackWrong)

end Rows
end Go.Proofs.Qxb6604448aFmt
