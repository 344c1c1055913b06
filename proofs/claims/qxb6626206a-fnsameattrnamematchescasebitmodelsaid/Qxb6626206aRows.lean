/-
  No cell of these rows narrows 'for every input' (looked for: loops, veiled, ifaces, maps, wideKeys, modest, calm, conditions, laid).
  DERIVED. THE GIVEN ROWS OF THIS SEAT. 2 by the template 'for every input the law returns true; each argument reads behind the call as it read before'; 0 by the template 'total and deterministic' (their statements: Qxb6626206aTotals.lean).
  GIVEN WITH THE SEED: the statements are not yours to turn. If you find one false, say at which input.
  Laid BY PROGRAM, IN A SANDBOX (cutbox-rows.mjs): the forced cells as the released guide's own fill.sh prints them over the translation 12d25b0d0d838f25… (all of the seat's roots in one cut). By AI agents, Wed Nov 11 2026. No macro, syntax, notation, axiom, sorry.
-/
import Derived.Test.Qxb6626206aChecked
import GoSem.Claim
import GoSem.ClaimJoined
import GoSem.ClaimMapViews
import Derived.JoinedTies
import Derived.KernelRfl
namespace Go.Proofs.Qxb6626206a
/- THE CELL 'sum', in the pinned program and in every row, IS THE sha256 OF THE DUMP (.gsa) THAT Qxb6626206aProg.lean LOADS. Nothing in Lean hashes anything: it is a label: what it is worth is what the hold of that sum in a sandbox is worth. -/
noncomputable def Try.pinned : Pinned := { name := "qxb6626206a", sum := "12d25b0d0d838f25a8d3c95ecc889963ab4e8e10bd2d12dee1899f6848955503", checked := Try.checked }
namespace Rows
def none {H : Type} : Left H := { results := [], args := [] }

/-- 'zzlaws_internal_syntax_b1.FnSameAttrNameMatchesCaseBitModel': WHATEVER THE INPUT: true; the input reads as it did. -/
def fnSameAttrNameMatchesCaseBitModelSpec : ChangeSpec := { name := "fnSameAttrNameMatchesCaseBitModel", fn := fun _ => fun
  | [d1, d2] => { results := [.lit (.bool true)], args := [d1, d2] }
  | _ => none }
def fnSameAttrNameMatchesCaseBitModelRow : OpenClaim := { program := "qxb6626206a", sum := "12d25b0d0d838f25a8d3c95ecc889963ab4e8e10bd2d12dee1899f6848955503", func := "example.com/tagloom/tagloom/zzlaws_internal_syntax_b1.FnSameAttrNameMatchesCaseBitModel", spec := "fnSameAttrNameMatchesCaseBitModel", apart := false }
def FnSameAttrNameMatchesCaseBitModelSaid : Prop := fnSameAttrNameMatchesCaseBitModelRow.holds Try.pinned (OpenSpec.ofChange fnSameAttrNameMatchesCaseBitModelSpec)

/-- ITS FALSE NEIGHBOUR: 'it returns false'. Refute it at one input. -/
def fnSameAttrNameMatchesCaseBitModelWrong : ChangeSpec := { name := "fnSameAttrNameMatchesCaseBitModel", fn := fun _ => fun
  | [d1, d2] => { results := [.lit (.bool false)], args := [d1, d2] }
  | _ => none }
def FnSameAttrNameMatchesCaseBitModelWrongFalsely : Prop := fnSameAttrNameMatchesCaseBitModelRow.holds Try.pinned (OpenSpec.ofChange fnSameAttrNameMatchesCaseBitModelWrong)

/-- 'zzlaws_internal_syntax_b1.FnSameAttrNameSplitsAtAnyCut': WHATEVER THE INPUT: true; the input reads as it did. -/
def fnSameAttrNameSplitsAtAnyCutSpec : ChangeSpec := { name := "fnSameAttrNameSplitsAtAnyCut", fn := fun _ => fun
  | [d1, d2, d3] => { results := [.lit (.bool true)], args := [d1, d2, d3] }
  | _ => none }
def fnSameAttrNameSplitsAtAnyCutRow : OpenClaim := { program := "qxb6626206a", sum := "12d25b0d0d838f25a8d3c95ecc889963ab4e8e10bd2d12dee1899f6848955503", func := "example.com/tagloom/tagloom/zzlaws_internal_syntax_b1.FnSameAttrNameSplitsAtAnyCut", spec := "fnSameAttrNameSplitsAtAnyCut", apart := false }
def FnSameAttrNameSplitsAtAnyCutSaid : Prop := fnSameAttrNameSplitsAtAnyCutRow.holds Try.pinned (OpenSpec.ofChange fnSameAttrNameSplitsAtAnyCutSpec)

/-- ITS FALSE NEIGHBOUR: 'it returns false'. Refute it at one input. -/
def fnSameAttrNameSplitsAtAnyCutWrong : ChangeSpec := { name := "fnSameAttrNameSplitsAtAnyCut", fn := fun _ => fun
  | [d1, d2, d3] => { results := [.lit (.bool false)], args := [d1, d2, d3] }
  | _ => none }
def FnSameAttrNameSplitsAtAnyCutWrongFalsely : Prop := fnSameAttrNameSplitsAtAnyCutRow.holds Try.pinned (OpenSpec.ofChange fnSameAttrNameSplitsAtAnyCutWrong)

end Rows
end Go.Proofs.Qxb6626206a
