/-
  No cell of these rows narrows 'for every input' (looked for: loops, veiled, ifaces, maps, wideKeys, modest, calm, conditions, laid).
  DERIVED. THE GIVEN ROWS OF THIS SEAT. 2 by the template 'for every input the law returns true; each argument reads behind the call as it read before'; 0 by the template 'total and deterministic' (their statements: Qxb6626329aTotals.lean).
  GIVEN WITH THE SEED: the statements are not yours to turn. If you find one false, say at which input.
  Laid BY PROGRAM, IN A SANDBOX (cutbox-rows.mjs): the forced cells as the released guide's own fill.sh prints them over the translation 7e098f5acae333bb… (all of the seat's roots in one cut). By AI agents, Wed Nov 11 2026. No macro, syntax, notation, axiom, sorry.
-/
import Derived.Test.Qxb6626329aChecked
import GoSem.Claim
import GoSem.ClaimJoined
import GoSem.ClaimMapViews
import Derived.JoinedTies
import Derived.KernelRfl
namespace Go.Proofs.Qxb6626329a
/- THE CELL 'sum', in the pinned program and in every row, IS THE sha256 OF THE DUMP (.gsa) THAT Qxb6626329aProg.lean LOADS. Nothing in Lean hashes anything: it is a label: what it is worth is what the hold of that sum in a sandbox is worth. -/
noncomputable def Try.pinned : Pinned := { name := "qxb6626329a", sum := "7e098f5acae333bb91358f705ad99fb3096fc28a066aae4a79e0746707859a17", checked := Try.checked }
namespace Rows
def none {H : Type} : Left H := { results := [], args := [] }

/-- 'zzlaws_internal_raft_b1.FnIDsSortedUniqueUnion': WHATEVER THE INPUT: true; the input reads as it did. -/
def fnIDsSortedUniqueUnionSpec : ChangeSpec := { name := "fnIDsSortedUniqueUnion", fn := fun _ => fun
  | [d1, d2, d3, d4] => { results := [.lit (.bool true)], args := [d1, d2, d3, d4] }
  | _ => none }
def fnIDsSortedUniqueUnionRow : OpenClaim := { program := "qxb6626329a", sum := "7e098f5acae333bb91358f705ad99fb3096fc28a066aae4a79e0746707859a17", func := "example.com/quorumlog/quorumlog/zzlaws_internal_raft_b1.FnIDsSortedUniqueUnion", spec := "fnIDsSortedUniqueUnion", recurses := true, apart := false }
def FnIDsSortedUniqueUnionSaid : Prop := fnIDsSortedUniqueUnionRow.holds Try.pinned (OpenSpec.ofChange fnIDsSortedUniqueUnionSpec)

/-- ITS FALSE NEIGHBOUR: 'it returns false'. Refute it at one input. -/
def fnIDsSortedUniqueUnionWrong : ChangeSpec := { name := "fnIDsSortedUniqueUnion", fn := fun _ => fun
  | [d1, d2, d3, d4] => { results := [.lit (.bool false)], args := [d1, d2, d3, d4] }
  | _ => none }
def FnIDsSortedUniqueUnionWrongFalsely : Prop := fnIDsSortedUniqueUnionRow.holds Try.pinned (OpenSpec.ofChange fnIDsSortedUniqueUnionWrong)

/-- 'zzlaws_internal_raft_b1.FnIDsJointAsMergedAndFixedPoint': WHATEVER THE INPUT: true; the input reads as it did. -/
def fnIDsJointAsMergedAndFixedPointSpec : ChangeSpec := { name := "fnIDsJointAsMergedAndFixedPoint", fn := fun _ => fun
  | [d1, d2, d3, d4] => { results := [.lit (.bool true)], args := [d1, d2, d3, d4] }
  | _ => none }
def fnIDsJointAsMergedAndFixedPointRow : OpenClaim := { program := "qxb6626329a", sum := "7e098f5acae333bb91358f705ad99fb3096fc28a066aae4a79e0746707859a17", func := "example.com/quorumlog/quorumlog/zzlaws_internal_raft_b1.FnIDsJointAsMergedAndFixedPoint", spec := "fnIDsJointAsMergedAndFixedPoint", recurses := true, apart := false }
def FnIDsJointAsMergedAndFixedPointSaid : Prop := fnIDsJointAsMergedAndFixedPointRow.holds Try.pinned (OpenSpec.ofChange fnIDsJointAsMergedAndFixedPointSpec)

/-- ITS FALSE NEIGHBOUR: 'it returns false'. Refute it at one input. -/
def fnIDsJointAsMergedAndFixedPointWrong : ChangeSpec := { name := "fnIDsJointAsMergedAndFixedPoint", fn := fun _ => fun
  | [d1, d2, d3, d4] => { results := [.lit (.bool false)], args := [d1, d2, d3, d4] }
  | _ => none }
def FnIDsJointAsMergedAndFixedPointWrongFalsely : Prop := fnIDsJointAsMergedAndFixedPointRow.holds Try.pinned (OpenSpec.ofChange fnIDsJointAsMergedAndFixedPointWrong)

end Rows
end Go.Proofs.Qxb6626329a
