/-
  No cell of these rows narrows 'for every input' (looked for: loops, veiled, ifaces, maps, wideKeys, modest, calm, conditions, laid).
  DERIVED. THE GIVEN ROWS OF THIS SEAT. 2 by the template 'for every input the law returns true; each argument reads behind the call as it read before'; 0 by the template 'total and deterministic' (their statements: Qxb6627713aTotals.lean).
  GIVEN WITH THE SEED: the statements are not yours to turn. If you find one false, say at which input.
  Laid BY PROGRAM, IN A SANDBOX (cutbox-rows.mjs): the forced cells as the released guide's own fill.sh prints them over the translation 83b6cfe0358233ca… (all of the seat's roots in one cut). By AI agents, Wed Nov 11 2026. No macro, syntax, notation, axiom, sorry.
-/
import Derived.Test.Qxb6627713aChecked
import GoSem.Claim
import GoSem.ClaimJoined
import GoSem.ClaimMapViews
import Derived.JoinedTies
import Derived.KernelRfl
namespace Go.Proofs.Qxb6627713a
/- THE CELL 'sum', in the pinned program and in every row, IS THE sha256 OF THE DUMP (.gsa) THAT Qxb6627713aProg.lean LOADS. Nothing in Lean hashes anything: it is a label: what it is worth is what the hold of that sum in a sandbox is worth. -/
noncomputable def Try.pinned : Pinned := { name := "qxb6627713a", sum := "83b6cfe0358233ca2fd0f2ee5a475a953e7d45a014d1ada904adb1c11362bbdf", checked := Try.checked }
namespace Rows
def none {H : Type} : Left H := { results := [], args := [] }

/-- 'zzlaws_internal_storetest_b1.FnMedianIsMiddleOrderStatistic': WHATEVER THE INPUT: true; the input reads as it did. -/
def fnMedianIsMiddleOrderStatisticSpec : ChangeSpec := { name := "fnMedianIsMiddleOrderStatistic", fn := fun _ => fun
  | [d] => { results := [.lit (.bool true)], args := [d] }
  | _ => none }
def fnMedianIsMiddleOrderStatisticRow : OpenClaim := { program := "qxb6627713a", sum := "83b6cfe0358233ca2fd0f2ee5a475a953e7d45a014d1ada904adb1c11362bbdf", func := "example.com/quota-per-window/quota-per-window/zzlaws_internal_storetest_b1.FnMedianIsMiddleOrderStatistic", spec := "fnMedianIsMiddleOrderStatistic", unfollowed := true, recurses := true, apart := false }
def FnMedianIsMiddleOrderStatisticSaid : Prop := fnMedianIsMiddleOrderStatisticRow.holds Try.pinned (OpenSpec.ofChange fnMedianIsMiddleOrderStatisticSpec)

/-- ITS FALSE NEIGHBOUR: 'it returns false'. Refute it at one input. -/
def fnMedianIsMiddleOrderStatisticWrong : ChangeSpec := { name := "fnMedianIsMiddleOrderStatistic", fn := fun _ => fun
  | [d] => { results := [.lit (.bool false)], args := [d] }
  | _ => none }
def FnMedianIsMiddleOrderStatisticWrongFalsely : Prop := fnMedianIsMiddleOrderStatisticRow.holds Try.pinned (OpenSpec.ofChange fnMedianIsMiddleOrderStatisticWrong)

/-- 'zzlaws_internal_storetest_b1.FnMedianSameAfterRotationAtAnyCut': WHATEVER THE INPUT: true; the input reads as it did. -/
def fnMedianSameAfterRotationAtAnyCutSpec : ChangeSpec := { name := "fnMedianSameAfterRotationAtAnyCut", fn := fun _ => fun
  | [d1, d2] => { results := [.lit (.bool true)], args := [d1, d2] }
  | _ => none }
def fnMedianSameAfterRotationAtAnyCutRow : OpenClaim := { program := "qxb6627713a", sum := "83b6cfe0358233ca2fd0f2ee5a475a953e7d45a014d1ada904adb1c11362bbdf", func := "example.com/quota-per-window/quota-per-window/zzlaws_internal_storetest_b1.FnMedianSameAfterRotationAtAnyCut", spec := "fnMedianSameAfterRotationAtAnyCut", unfollowed := true, recurses := true, apart := false }
def FnMedianSameAfterRotationAtAnyCutSaid : Prop := fnMedianSameAfterRotationAtAnyCutRow.holds Try.pinned (OpenSpec.ofChange fnMedianSameAfterRotationAtAnyCutSpec)

/-- ITS FALSE NEIGHBOUR: 'it returns false'. Refute it at one input. -/
def fnMedianSameAfterRotationAtAnyCutWrong : ChangeSpec := { name := "fnMedianSameAfterRotationAtAnyCut", fn := fun _ => fun
  | [d1, d2] => { results := [.lit (.bool false)], args := [d1, d2] }
  | _ => none }
def FnMedianSameAfterRotationAtAnyCutWrongFalsely : Prop := fnMedianSameAfterRotationAtAnyCutRow.holds Try.pinned (OpenSpec.ofChange fnMedianSameAfterRotationAtAnyCutWrong)

end Rows
end Go.Proofs.Qxb6627713a
