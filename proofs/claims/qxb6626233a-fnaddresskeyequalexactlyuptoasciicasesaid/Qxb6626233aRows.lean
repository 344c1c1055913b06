/-
  No cell of these rows narrows 'for every input' (looked for: loops, veiled, ifaces, maps, wideKeys, modest, calm, conditions, laid).
  DERIVED. THE GIVEN ROWS OF THIS SEAT. 2 by the template 'for every input the law returns true; each argument reads behind the call as it read before'; 0 by the template 'total and deterministic' (their statements: Qxb6626233aTotals.lean).
  GIVEN WITH THE SEED: the statements are not yours to turn. If you find one false, say at which input.
  Laid BY PROGRAM, IN A SANDBOX (cutbox-rows.mjs): the forced cells as the released guide's own fill.sh prints them over the translation 37eae8aa6f2a8808… (all of the seat's roots in one cut). By AI agents, Wed Nov 11 2026. No macro, syntax, notation, axiom, sorry.
-/
import Derived.Test.Qxb6626233aChecked
import GoSem.Claim
import GoSem.ClaimJoined
import GoSem.ClaimMapViews
import Derived.JoinedTies
import Derived.KernelRfl
namespace Go.Proofs.Qxb6626233a
/- THE CELL 'sum', in the pinned program and in every row, IS THE sha256 OF THE DUMP (.gsa) THAT Qxb6626233aProg.lean LOADS. Nothing in Lean hashes anything: it is a label: what it is worth is what the hold of that sum in a sandbox is worth. -/
noncomputable def Try.pinned : Pinned := { name := "qxb6626233a", sum := "37eae8aa6f2a88085fc745d8563ad46f92cfb0225fadc09fe240274177ee49cd", checked := Try.checked }
namespace Rows
def none {H : Type} : Left H := { results := [], args := [] }

/-- 'zzlaws_internal_world_b1.FnAddressKeyLowerFoldSplitsAtAnyCut': WHATEVER THE INPUT: true; the input reads as it did. -/
def fnAddressKeyLowerFoldSplitsAtAnyCutSpec : ChangeSpec := { name := "fnAddressKeyLowerFoldSplitsAtAnyCut", fn := fun _ => fun
  | [d1, d2] => { results := [.lit (.bool true)], args := [d1, d2] }
  | _ => none }
def fnAddressKeyLowerFoldSplitsAtAnyCutRow : OpenClaim := { program := "qxb6626233a", sum := "37eae8aa6f2a88085fc745d8563ad46f92cfb0225fadc09fe240274177ee49cd", func := "example.com/kutsu/kutsu/zzlaws_internal_world_b1.FnAddressKeyLowerFoldSplitsAtAnyCut", spec := "fnAddressKeyLowerFoldSplitsAtAnyCut", apart := false }
def FnAddressKeyLowerFoldSplitsAtAnyCutSaid : Prop := fnAddressKeyLowerFoldSplitsAtAnyCutRow.holds Try.pinned (OpenSpec.ofChange fnAddressKeyLowerFoldSplitsAtAnyCutSpec)

/-- ITS FALSE NEIGHBOUR: 'it returns false'. Refute it at one input. -/
def fnAddressKeyLowerFoldSplitsAtAnyCutWrong : ChangeSpec := { name := "fnAddressKeyLowerFoldSplitsAtAnyCut", fn := fun _ => fun
  | [d1, d2] => { results := [.lit (.bool false)], args := [d1, d2] }
  | _ => none }
def FnAddressKeyLowerFoldSplitsAtAnyCutWrongFalsely : Prop := fnAddressKeyLowerFoldSplitsAtAnyCutRow.holds Try.pinned (OpenSpec.ofChange fnAddressKeyLowerFoldSplitsAtAnyCutWrong)

/-- 'zzlaws_internal_world_b1.FnAddressKeyEqualExactlyUpToASCIICase': WHATEVER THE INPUT: true; the input reads as it did. -/
def fnAddressKeyEqualExactlyUpToASCIICaseSpec : ChangeSpec := { name := "fnAddressKeyEqualExactlyUpToASCIICase", fn := fun _ => fun
  | [d1, d2] => { results := [.lit (.bool true)], args := [d1, d2] }
  | _ => none }
def fnAddressKeyEqualExactlyUpToASCIICaseRow : OpenClaim := { program := "qxb6626233a", sum := "37eae8aa6f2a88085fc745d8563ad46f92cfb0225fadc09fe240274177ee49cd", func := "example.com/kutsu/kutsu/zzlaws_internal_world_b1.FnAddressKeyEqualExactlyUpToASCIICase", spec := "fnAddressKeyEqualExactlyUpToASCIICase", apart := false }
def FnAddressKeyEqualExactlyUpToASCIICaseSaid : Prop := fnAddressKeyEqualExactlyUpToASCIICaseRow.holds Try.pinned (OpenSpec.ofChange fnAddressKeyEqualExactlyUpToASCIICaseSpec)

/-- ITS FALSE NEIGHBOUR: 'it returns false'. Refute it at one input. -/
def fnAddressKeyEqualExactlyUpToASCIICaseWrong : ChangeSpec := { name := "fnAddressKeyEqualExactlyUpToASCIICase", fn := fun _ => fun
  | [d1, d2] => { results := [.lit (.bool false)], args := [d1, d2] }
  | _ => none }
def FnAddressKeyEqualExactlyUpToASCIICaseWrongFalsely : Prop := fnAddressKeyEqualExactlyUpToASCIICaseRow.holds Try.pinned (OpenSpec.ofChange fnAddressKeyEqualExactlyUpToASCIICaseWrong)

end Rows
end Go.Proofs.Qxb6626233a
