/-
  No cell of these rows narrows 'for every input' (looked for: loops, veiled, ifaces, maps, wideKeys, modest, calm, conditions, laid).
  DERIVED. THE GIVEN ROWS OF THIS SEAT. 2 by the template 'for every input the law returns true; each argument reads behind the call as it read before'; 0 by the template 'total and deterministic' (their statements: Qxb6626294aTotals.lean).
  GIVEN WITH THE SEED: the statements are not yours to turn. If you find one false, say at which input.
  Laid BY PROGRAM, IN A SANDBOX (cutbox-rows.mjs): the forced cells as the released guide's own fill.sh prints them over the translation 70f898bcda38ccda… (all of the seat's roots in one cut). By AI agents, Wed Nov 11 2026. No macro, syntax, notation, axiom, sorry.
-/
import Derived.Test.Qxb6626294aChecked
import GoSem.Claim
import GoSem.ClaimJoined
import GoSem.ClaimMapViews
import Derived.JoinedTies
import Derived.KernelRfl
namespace Go.Proofs.Qxb6626294a
/- THE CELL 'sum', in the pinned program and in every row, IS THE sha256 OF THE DUMP (.gsa) THAT Qxb6626294aProg.lean LOADS. Nothing in Lean hashes anything: it is a label: what it is worth is what the hold of that sum in a sandbox is worth. -/
noncomputable def Try.pinned : Pinned := { name := "qxb6626294a", sum := "70f898bcda38ccda5d17887930544df36614da7fc0e9cf1317717f3edd203869", checked := Try.checked }
namespace Rows
def none {H : Type} : Left H := { results := [], args := [] }

/-- 'zzlaws_number_b1.FnFullDigitsPointShiftAndSpan': WHATEVER THE INPUT: true; the input reads as it did. -/
def fnFullDigitsPointShiftAndSpanSpec : ChangeSpec := { name := "fnFullDigitsPointShiftAndSpan", fn := fun _ => fun
  | [d1, d2] => { results := [.lit (.bool true)], args := [d1, d2] }
  | _ => none }
def fnFullDigitsPointShiftAndSpanRow : OpenClaim := { program := "qxb6626294a", sum := "70f898bcda38ccda5d17887930544df36614da7fc0e9cf1317717f3edd203869", func := "example.com/ratemark/ratemark/zzlaws_number_b1.FnFullDigitsPointShiftAndSpan", spec := "fnFullDigitsPointShiftAndSpan", apart := false }
def FnFullDigitsPointShiftAndSpanSaid : Prop := fnFullDigitsPointShiftAndSpanRow.holds Try.pinned (OpenSpec.ofChange fnFullDigitsPointShiftAndSpanSpec)

/-- ITS FALSE NEIGHBOUR: 'it returns false'. Refute it at one input. -/
def fnFullDigitsPointShiftAndSpanWrong : ChangeSpec := { name := "fnFullDigitsPointShiftAndSpan", fn := fun _ => fun
  | [d1, d2] => { results := [.lit (.bool false)], args := [d1, d2] }
  | _ => none }
def FnFullDigitsPointShiftAndSpanWrongFalsely : Prop := fnFullDigitsPointShiftAndSpanRow.holds Try.pinned (OpenSpec.ofChange fnFullDigitsPointShiftAndSpanWrong)

/-- 'zzlaws_number_b1.FnFullDigitsLongerCoefficientAndZero': WHATEVER THE INPUT: true; the input reads as it did. -/
def fnFullDigitsLongerCoefficientAndZeroSpec : ChangeSpec := { name := "fnFullDigitsLongerCoefficientAndZero", fn := fun _ => fun
  | [d1, d2] => { results := [.lit (.bool true)], args := [d1, d2] }
  | _ => none }
def fnFullDigitsLongerCoefficientAndZeroRow : OpenClaim := { program := "qxb6626294a", sum := "70f898bcda38ccda5d17887930544df36614da7fc0e9cf1317717f3edd203869", func := "example.com/ratemark/ratemark/zzlaws_number_b1.FnFullDigitsLongerCoefficientAndZero", spec := "fnFullDigitsLongerCoefficientAndZero", apart := false }
def FnFullDigitsLongerCoefficientAndZeroSaid : Prop := fnFullDigitsLongerCoefficientAndZeroRow.holds Try.pinned (OpenSpec.ofChange fnFullDigitsLongerCoefficientAndZeroSpec)

/-- ITS FALSE NEIGHBOUR: 'it returns false'. Refute it at one input. -/
def fnFullDigitsLongerCoefficientAndZeroWrong : ChangeSpec := { name := "fnFullDigitsLongerCoefficientAndZero", fn := fun _ => fun
  | [d1, d2] => { results := [.lit (.bool false)], args := [d1, d2] }
  | _ => none }
def FnFullDigitsLongerCoefficientAndZeroWrongFalsely : Prop := fnFullDigitsLongerCoefficientAndZeroRow.holds Try.pinned (OpenSpec.ofChange fnFullDigitsLongerCoefficientAndZeroWrong)

end Rows
end Go.Proofs.Qxb6626294a
