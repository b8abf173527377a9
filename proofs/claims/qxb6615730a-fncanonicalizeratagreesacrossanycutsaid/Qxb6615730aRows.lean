/-
  No cell of these rows narrows 'for every input' (looked for: loops, veiled, ifaces, maps, wideKeys, modest, calm, conditions, laid).
  DERIVED. THE GIVEN ROWS OF THIS SEAT. 3 by the template 'for every input the law returns true; each argument reads behind the call as it read before'; 0 by the template 'total and deterministic' (their statements: Qxb6615730aTotals.lean).
  GIVEN WITH THE SEED: the statements are not yours to turn. If you find one false, say at which input.
  Laid BY PROGRAM, IN A SANDBOX (cutbox-rows.mjs): the forced cells as the released guide's own fill.sh prints them over the translation e84978ef581fcf8e… (all of the seat's roots in one cut). By AI agents, Wed Nov 11 2026. No macro, syntax, notation, axiom, sorry.
-/
import Derived.Test.Qxb6615730aChecked
import GoSem.Claim
import GoSem.ClaimJoined
import GoSem.ClaimMapViews
import Derived.JoinedTies
import Derived.KernelRfl
namespace Go.Proofs.Qxb6615730a
/- THE CELL 'sum', in the pinned program and in every row, IS THE sha256 OF THE DUMP (.gsa) THAT Qxb6615730aProg.lean LOADS. Nothing in Lean hashes anything: it is a label: what it is worth is what the hold of that sum in a sandbox is worth. -/
noncomputable def Try.pinned : Pinned := { name := "qxb6615730a", sum := "e84978ef581fcf8e6596fc9afe33e1f6a17bf9732553d0b76c2faf82103ce375", checked := Try.checked }
namespace Rows
def none {H : Type} : Left H := { results := [], args := [] }

/-- 'zzlaws_root_b1.FnCanonicalizerAtAgreesAcrossAnyCut': WHATEVER THE INPUT: true; the input reads as it did. -/
def fnCanonicalizerAtAgreesAcrossAnyCutSpec : ChangeSpec := { name := "fnCanonicalizerAtAgreesAcrossAnyCut", fn := fun _ => fun
  | [d1, d2, d3, d4] => { results := [.lit (.bool true)], args := [d1, d2, d3, d4] }
  | _ => none }
def fnCanonicalizerAtAgreesAcrossAnyCutRow : OpenClaim := { program := "qxb6615730a", sum := "e84978ef581fcf8e6596fc9afe33e1f6a17bf9732553d0b76c2faf82103ce375", func := "example.com/cairnroot/cairnroot/zzlaws_root_b1.FnCanonicalizerAtAgreesAcrossAnyCut", spec := "fnCanonicalizerAtAgreesAcrossAnyCut", apart := false }
def FnCanonicalizerAtAgreesAcrossAnyCutSaid : Prop := fnCanonicalizerAtAgreesAcrossAnyCutRow.holds Try.pinned (OpenSpec.ofChange fnCanonicalizerAtAgreesAcrossAnyCutSpec)

/-- ITS FALSE NEIGHBOUR: 'it returns false'. Refute it at one input. -/
def fnCanonicalizerAtAgreesAcrossAnyCutWrong : ChangeSpec := { name := "fnCanonicalizerAtAgreesAcrossAnyCut", fn := fun _ => fun
  | [d1, d2, d3, d4] => { results := [.lit (.bool false)], args := [d1, d2, d3, d4] }
  | _ => none }
def FnCanonicalizerAtAgreesAcrossAnyCutWrongFalsely : Prop := fnCanonicalizerAtAgreesAcrossAnyCutRow.holds Try.pinned (OpenSpec.ofChange fnCanonicalizerAtAgreesAcrossAnyCutWrong)

/-- 'zzlaws_root_b1.FnSubtreePositionFollowsItsChildren': WHATEVER THE INPUT: true; the input reads as it did. -/
def fnSubtreePositionFollowsItsChildrenSpec : ChangeSpec := { name := "fnSubtreePositionFollowsItsChildren", fn := fun _ => fun
  | [d1, d2] => { results := [.lit (.bool true)], args := [d1, d2] }
  | _ => none }
def fnSubtreePositionFollowsItsChildrenRow : OpenClaim := { program := "qxb6615730a", sum := "e84978ef581fcf8e6596fc9afe33e1f6a17bf9732553d0b76c2faf82103ce375", func := "example.com/cairnroot/cairnroot/zzlaws_root_b1.FnSubtreePositionFollowsItsChildren", spec := "fnSubtreePositionFollowsItsChildren", apart := false }
def FnSubtreePositionFollowsItsChildrenSaid : Prop := fnSubtreePositionFollowsItsChildrenRow.holds Try.pinned (OpenSpec.ofChange fnSubtreePositionFollowsItsChildrenSpec)

/-- ITS FALSE NEIGHBOUR: 'it returns false'. Refute it at one input. -/
def fnSubtreePositionFollowsItsChildrenWrong : ChangeSpec := { name := "fnSubtreePositionFollowsItsChildren", fn := fun _ => fun
  | [d1, d2] => { results := [.lit (.bool false)], args := [d1, d2] }
  | _ => none }
def FnSubtreePositionFollowsItsChildrenWrongFalsely : Prop := fnSubtreePositionFollowsItsChildrenRow.holds Try.pinned (OpenSpec.ofChange fnSubtreePositionFollowsItsChildrenWrong)

/-- 'zzlaws_root_b1.FnSubtreePositionLiesBetweenItsLeaves': WHATEVER THE INPUT: true; the input reads as it did. -/
def fnSubtreePositionLiesBetweenItsLeavesSpec : ChangeSpec := { name := "fnSubtreePositionLiesBetweenItsLeaves", fn := fun _ => fun
  | [d1, d2] => { results := [.lit (.bool true)], args := [d1, d2] }
  | _ => none }
def fnSubtreePositionLiesBetweenItsLeavesRow : OpenClaim := { program := "qxb6615730a", sum := "e84978ef581fcf8e6596fc9afe33e1f6a17bf9732553d0b76c2faf82103ce375", func := "example.com/cairnroot/cairnroot/zzlaws_root_b1.FnSubtreePositionLiesBetweenItsLeaves", spec := "fnSubtreePositionLiesBetweenItsLeaves", apart := false }
def FnSubtreePositionLiesBetweenItsLeavesSaid : Prop := fnSubtreePositionLiesBetweenItsLeavesRow.holds Try.pinned (OpenSpec.ofChange fnSubtreePositionLiesBetweenItsLeavesSpec)

/-- ITS FALSE NEIGHBOUR: 'it returns false'. Refute it at one input. -/
def fnSubtreePositionLiesBetweenItsLeavesWrong : ChangeSpec := { name := "fnSubtreePositionLiesBetweenItsLeaves", fn := fun _ => fun
  | [d1, d2] => { results := [.lit (.bool false)], args := [d1, d2] }
  | _ => none }
def FnSubtreePositionLiesBetweenItsLeavesWrongFalsely : Prop := fnSubtreePositionLiesBetweenItsLeavesRow.holds Try.pinned (OpenSpec.ofChange fnSubtreePositionLiesBetweenItsLeavesWrong)

end Rows
end Go.Proofs.Qxb6615730a
