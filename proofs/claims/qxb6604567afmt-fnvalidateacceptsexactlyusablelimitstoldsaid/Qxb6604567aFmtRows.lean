/-
  No cell of these rows narrows 'for every input' (looked for: loops, veiled, ifaces, maps, wideKeys, modest, calm, conditions, laid).
  DERIVED. THE GIVEN ROWS OF THIS SEAT. 1 by the template 'for every input the law returns true; each argument reads behind the call as it read before'; 0 by the template 'total and deterministic' (their statements: Qxb6604567aFmtTotals.lean).
  GIVEN WITH THE SEED: the statements are not yours to turn. If you find one false, say at which input.
  Laid BY PROGRAM, IN A SANDBOX (cutbox-rows.mjs): the forced cells as the released guide's own fill.sh prints them over the translation 05b429133482a251… (all of the seat's roots in one cut). By AI agents, Wed Nov 11 2026. No macro, syntax, notation, axiom, sorry.
-/
import Derived.Test.Qxb6604567aFmtChecked
import GoSem.Claim
import GoSem.ClaimJoined
import GoSem.ClaimMapViews
import Derived.JoinedTies
import Derived.KernelRfl
namespace Go.Proofs.Qxb6604567aFmt
/- THE CELL 'sum', in the pinned program and in every row, IS THE sha256 OF THE DUMP (.gsa) THAT Qxb6604567aFmtProg.lean LOADS. Nothing in Lean hashes anything: it is a label: what it is worth is what the hold of that sum in a sandbox is worth. -/
noncomputable def Tryf.pinned : Pinned := { name := "qxb6604567afmt", sum := "05b429133482a25177535f22a9042dbf91a18bf71ccfd309cc8b0932391e903f", checked := Tryf.checked }
namespace Rows
def none {H : Type} : Left H := { results := [], args := [] }

/-- 'zzlaws_limiter_b1.FnValidateAcceptsExactlyUsableLimits': WHATEVER THE INPUT: true; the input reads as it did. -/
def fnValidateAcceptsExactlyUsableLimitsSpec : ChangeSpec := { name := "fnValidateAcceptsExactlyUsableLimits", fn := fun _ => fun
  | [d1, d2] => { results := [.lit (.bool true)], args := [d1, d2] }
  | _ => none }
def fnValidateAcceptsExactlyUsableLimitsRow : OpenClaim := { program := "qxb6604567afmt", sum := "05b429133482a25177535f22a9042dbf91a18bf71ccfd309cc8b0932391e903f", func := "example.com/nemesis/nemesis/zzlaws_limiter_b1.FnValidateAcceptsExactlyUsableLimits", spec := "fnValidateAcceptsExactlyUsableLimits", stops := ["fmt.errorf"], inPlace := ["math.Float64bits", "math.Float64frombits", "fmt.errorf"], apart := false }
/-- NO THEOREM (fmt's text is open here; it may be false): for the released tool's asking of the row's closed facts alone. THE STATEMENT IS 'FnValidateAcceptsExactlyUsableLimitsToldSaid' (Qxb6604567aFmtCards.lean). -/
def FnValidateAcceptsExactlyUsableLimitsFormAsk : Prop := fnValidateAcceptsExactlyUsableLimitsRow.holds Tryf.pinned (OpenSpec.ofChange fnValidateAcceptsExactlyUsableLimitsSpec)

/-- ITS FALSE NEIGHBOUR: 'it returns false'. Refute it at one input. -/
def fnValidateAcceptsExactlyUsableLimitsWrong : ChangeSpec := { name := "fnValidateAcceptsExactlyUsableLimits", fn := fun _ => fun
  | [d1, d2] => { results := [.lit (.bool false)], args := [d1, d2] }
  | _ => none }
def FnValidateAcceptsExactlyUsableLimitsWrongFormAsk : Prop := fnValidateAcceptsExactlyUsableLimitsRow.holds Tryf.pinned (OpenSpec.ofChange fnValidateAcceptsExactlyUsableLimitsWrong)

end Rows
end Go.Proofs.Qxb6604567aFmt
