/-
  No cell of these rows narrows 'for every input' (looked for: loops, veiled, ifaces, maps, wideKeys, modest, calm, conditions, laid).
  DERIVED. THE GIVEN ROWS OF THIS SEAT. 4 by the template 'for every input the law returns true; each argument reads behind the call as it read before'; 0 by the template 'total and deterministic' (their statements: Qxb6614952aTotals.lean).
  GIVEN WITH THE SEED: the statements are not yours to turn. If you find one false, say at which input.
  Laid BY PROGRAM, IN A SANDBOX (cutbox-rows.mjs): the forced cells as the released guide's own fill.sh prints them over the translation 00141c89e0d3b055… (all of the seat's roots in one cut). By AI agents, Wed Nov 11 2026. No macro, syntax, notation, axiom, sorry.
-/
import Derived.Test.Qxb6614952aChecked
import GoSem.Claim
import GoSem.ClaimJoined
import GoSem.ClaimMapViews
import Derived.JoinedTies
import Derived.KernelRfl
namespace Go.Proofs.Qxb6614952a
/- THE CELL 'sum', in the pinned program and in every row, IS THE sha256 OF THE DUMP (.gsa) THAT Qxb6614952aProg.lean LOADS. Nothing in Lean hashes anything: it is a label: what it is worth is what the hold of that sum in a sandbox is worth. -/
noncomputable def Try.pinned : Pinned := { name := "qxb6614952a", sum := "00141c89e0d3b05580c5293152d35438f126526d1d2d9a69e54f91470120b5a0", checked := Try.checked }
namespace Rows
def none {H : Type} : Left H := { results := [], args := [] }

/-- 'zzlaws_pkg_replication_b1.FnSettledInsertAnywhere': WHATEVER THE INPUT: true; the input reads as it did. -/
def fnSettledInsertAnywhereSpec : ChangeSpec := { name := "fnSettledInsertAnywhere", fn := fun _ => fun
  | [d1, d2, d3] => { results := [.lit (.bool true)], args := [d1, d2, d3] }
  | _ => none }
def fnSettledInsertAnywhereRow : OpenClaim := { program := "qxb6614952a", sum := "00141c89e0d3b05580c5293152d35438f126526d1d2d9a69e54f91470120b5a0", func := "example.com/ringfold/ringfold/zzlaws_pkg_replication_b1.FnSettledInsertAnywhere", spec := "fnSettledInsertAnywhere", apart := false }
def FnSettledInsertAnywhereSaid : Prop := fnSettledInsertAnywhereRow.holds Try.pinned (OpenSpec.ofChange fnSettledInsertAnywhereSpec)

/-- ITS FALSE NEIGHBOUR: 'it returns false'. Refute it at one input. -/
def fnSettledInsertAnywhereWrong : ChangeSpec := { name := "fnSettledInsertAnywhere", fn := fun _ => fun
  | [d1, d2, d3] => { results := [.lit (.bool false)], args := [d1, d2, d3] }
  | _ => none }
def FnSettledInsertAnywhereWrongFalsely : Prop := fnSettledInsertAnywhereRow.holds Try.pinned (OpenSpec.ofChange fnSettledInsertAnywhereWrong)

/-- 'zzlaws_pkg_replication_b1.FnSettledSplitAndSilence': WHATEVER THE INPUT: true; the input reads as it did. -/
def fnSettledSplitAndSilenceSpec : ChangeSpec := { name := "fnSettledSplitAndSilence", fn := fun _ => fun
  | [d1, d2] => { results := [.lit (.bool true)], args := [d1, d2] }
  | _ => none }
def fnSettledSplitAndSilenceRow : OpenClaim := { program := "qxb6614952a", sum := "00141c89e0d3b05580c5293152d35438f126526d1d2d9a69e54f91470120b5a0", func := "example.com/ringfold/ringfold/zzlaws_pkg_replication_b1.FnSettledSplitAndSilence", spec := "fnSettledSplitAndSilence", apart := false }
def FnSettledSplitAndSilenceSaid : Prop := fnSettledSplitAndSilenceRow.holds Try.pinned (OpenSpec.ofChange fnSettledSplitAndSilenceSpec)

/-- ITS FALSE NEIGHBOUR: 'it returns false'. Refute it at one input. -/
def fnSettledSplitAndSilenceWrong : ChangeSpec := { name := "fnSettledSplitAndSilence", fn := fun _ => fun
  | [d1, d2] => { results := [.lit (.bool false)], args := [d1, d2] }
  | _ => none }
def FnSettledSplitAndSilenceWrongFalsely : Prop := fnSettledSplitAndSilenceRow.holds Try.pinned (OpenSpec.ofChange fnSettledSplitAndSilenceWrong)

/-- 'zzlaws_pkg_replication_b1.FnLaggingInsertAnywhere': WHATEVER THE INPUT: true; the input reads as it did. -/
def fnLaggingInsertAnywhereSpec : ChangeSpec := { name := "fnLaggingInsertAnywhere", fn := fun _ => fun
  | [d1, d2, d3, d4] => { results := [.lit (.bool true)], args := [d1, d2, d3, d4] }
  | _ => none }
def fnLaggingInsertAnywhereRow : OpenClaim := { program := "qxb6614952a", sum := "00141c89e0d3b05580c5293152d35438f126526d1d2d9a69e54f91470120b5a0", func := "example.com/ringfold/ringfold/zzlaws_pkg_replication_b1.FnLaggingInsertAnywhere", spec := "fnLaggingInsertAnywhere", unfollowed := true, recurses := true, apart := false }
def FnLaggingInsertAnywhereSaid : Prop := fnLaggingInsertAnywhereRow.holds Try.pinned (OpenSpec.ofChange fnLaggingInsertAnywhereSpec)

/-- ITS FALSE NEIGHBOUR: 'it returns false'. Refute it at one input. -/
def fnLaggingInsertAnywhereWrong : ChangeSpec := { name := "fnLaggingInsertAnywhere", fn := fun _ => fun
  | [d1, d2, d3, d4] => { results := [.lit (.bool false)], args := [d1, d2, d3, d4] }
  | _ => none }
def FnLaggingInsertAnywhereWrongFalsely : Prop := fnLaggingInsertAnywhereRow.holds Try.pinned (OpenSpec.ofChange fnLaggingInsertAnywhereWrong)

/-- 'zzlaws_pkg_replication_b1.FnBeginsAsksAgainOnlyUnderWant': WHATEVER THE INPUT: true; the input reads as it did. -/
def fnBeginsAsksAgainOnlyUnderWantSpec : ChangeSpec := { name := "fnBeginsAsksAgainOnlyUnderWant", fn := fun _ => fun
  | [d1, d2, d3, d4, d5, d6, d7, d8, d9] => { results := [.lit (.bool true)], args := [d1, d2, d3, d4, d5, d6, d7, d8, d9] }
  | _ => none }
def fnBeginsAsksAgainOnlyUnderWantRow : OpenClaim := { program := "qxb6614952a", sum := "00141c89e0d3b05580c5293152d35438f126526d1d2d9a69e54f91470120b5a0", func := "example.com/ringfold/ringfold/zzlaws_pkg_replication_b1.FnBeginsAsksAgainOnlyUnderWant", spec := "fnBeginsAsksAgainOnlyUnderWant", apart := false }
def FnBeginsAsksAgainOnlyUnderWantSaid : Prop := fnBeginsAsksAgainOnlyUnderWantRow.holds Try.pinned (OpenSpec.ofChange fnBeginsAsksAgainOnlyUnderWantSpec)

/-- ITS FALSE NEIGHBOUR: 'it returns false'. Refute it at one input. -/
def fnBeginsAsksAgainOnlyUnderWantWrong : ChangeSpec := { name := "fnBeginsAsksAgainOnlyUnderWant", fn := fun _ => fun
  | [d1, d2, d3, d4, d5, d6, d7, d8, d9] => { results := [.lit (.bool false)], args := [d1, d2, d3, d4, d5, d6, d7, d8, d9] }
  | _ => none }
def FnBeginsAsksAgainOnlyUnderWantWrongFalsely : Prop := fnBeginsAsksAgainOnlyUnderWantRow.holds Try.pinned (OpenSpec.ofChange fnBeginsAsksAgainOnlyUnderWantWrong)

end Rows
end Go.Proofs.Qxb6614952a
