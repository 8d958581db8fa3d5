/-
  No cell of these rows narrows 'for every input' (looked for: loops, veiled, ifaces, maps, wideKeys, modest, calm, conditions, laid).
  DERIVED. THE GIVEN ROWS OF THIS SEAT. 2 by the template 'for every input the law returns true; each argument reads behind the call as it read before'; 0 by the template 'total and deterministic' (their statements: Qxb6603496aTotals.lean).
  GIVEN WITH THE SEED: the statements are not yours to turn. If you find one false, say at which input.
  Laid BY PROGRAM, IN A SANDBOX (cutbox-rows.mjs): the forced cells as the released guide's own fill.sh prints them over the translation 8872e6b71432dcf9… (all of the seat's roots in one cut). By AI agents, Wed Nov 11 2026. No macro, syntax, notation, axiom, sorry.
-/
import Derived.Test.Qxb6603496aChecked
import GoSem.Claim
import GoSem.ClaimJoined
import GoSem.ClaimMapViews
import Derived.JoinedTies
import Derived.KernelRfl
namespace Go.Proofs.Qxb6603496a
/- THE CELL 'sum', in the pinned program and in every row, IS THE sha256 OF THE DUMP (.gsa) THAT Qxb6603496aProg.lean LOADS. Nothing in Lean hashes anything: it is a label: what it is worth is what the hold of that sum in a sandbox is worth. -/
noncomputable def Try.pinned : Pinned := { name := "qxb6603496a", sum := "8872e6b71432dcf9d40d9762b2cc50b2a8c5cb012a28982a9b90d5e7e71b2c94", checked := Try.checked }
namespace Rows
def none {H : Type} : Left H := { results := [], args := [] }

/-- 'zzlaws_internal_config_b1.FnHashStringDecodes': WHATEVER THE INPUT: true; the input reads as it did. -/
def fnHashStringDecodesSpec : ChangeSpec := { name := "fnHashStringDecodes", fn := fun _ => fun
  | [d1, d2] => { results := [.lit (.bool true)], args := [d1, d2] }
  | _ => none }
def fnHashStringDecodesRow : OpenClaim := { program := "qxb6603496a", sum := "8872e6b71432dcf9d40d9762b2cc50b2a8c5cb012a28982a9b90d5e7e71b2c94", func := "example.com/fornax/fornax/zzlaws_internal_config_b1.FnHashStringDecodes", spec := "fnHashStringDecodes", apart := false }
def FnHashStringDecodesSaid : Prop := fnHashStringDecodesRow.holds Try.pinned (OpenSpec.ofChange fnHashStringDecodesSpec)

/-- ITS FALSE NEIGHBOUR: 'it returns false'. Refute it at one input. -/
def fnHashStringDecodesWrong : ChangeSpec := { name := "fnHashStringDecodes", fn := fun _ => fun
  | [d1, d2] => { results := [.lit (.bool false)], args := [d1, d2] }
  | _ => none }
def FnHashStringDecodesWrongFalsely : Prop := fnHashStringDecodesRow.holds Try.pinned (OpenSpec.ofChange fnHashStringDecodesWrong)

/-- 'zzlaws_internal_config_b1.FnHashStringInjective': WHATEVER THE INPUT: true; the input reads as it did. -/
def fnHashStringInjectiveSpec : ChangeSpec := { name := "fnHashStringInjective", fn := fun _ => fun
  | [d1, d2, d3, d4] => { results := [.lit (.bool true)], args := [d1, d2, d3, d4] }
  | _ => none }
def fnHashStringInjectiveRow : OpenClaim := { program := "qxb6603496a", sum := "8872e6b71432dcf9d40d9762b2cc50b2a8c5cb012a28982a9b90d5e7e71b2c94", func := "example.com/fornax/fornax/zzlaws_internal_config_b1.FnHashStringInjective", spec := "fnHashStringInjective", apart := false }
def FnHashStringInjectiveSaid : Prop := fnHashStringInjectiveRow.holds Try.pinned (OpenSpec.ofChange fnHashStringInjectiveSpec)

/-- ITS FALSE NEIGHBOUR: 'it returns false'. Refute it at one input. -/
def fnHashStringInjectiveWrong : ChangeSpec := { name := "fnHashStringInjective", fn := fun _ => fun
  | [d1, d2, d3, d4] => { results := [.lit (.bool false)], args := [d1, d2, d3, d4] }
  | _ => none }
def FnHashStringInjectiveWrongFalsely : Prop := fnHashStringInjectiveRow.holds Try.pinned (OpenSpec.ofChange fnHashStringInjectiveWrong)

end Rows
end Go.Proofs.Qxb6603496a
