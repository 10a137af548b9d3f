/-
  No cell of these rows narrows 'for every input' (looked for: loops, veiled, ifaces, maps, wideKeys, modest, calm, conditions, laid).
  DERIVED. THE GIVEN ROWS OF THIS SEAT. 2 by the template 'for every input the law returns true; each argument reads behind the call as it read before'; 0 by the template 'total and deterministic' (their statements: Qxb6627769aTotals.lean).
  GIVEN WITH THE SEED: the statements are not yours to turn. If you find one false, say at which input.
  Laid BY PROGRAM, IN A SANDBOX (cutbox-rows.mjs): the forced cells as the released guide's own fill.sh prints them over the translation d14e097963ca529b… (all of the seat's roots in one cut). By AI agents, Wed Nov 11 2026. No macro, syntax, notation, axiom, sorry.
-/
import Derived.Test.Qxb6627769aChecked
import GoSem.Claim
import GoSem.ClaimJoined
import GoSem.ClaimMapViews
import Derived.JoinedTies
import Derived.KernelRfl
namespace Go.Proofs.Qxb6627769a
/- THE CELL 'sum', in the pinned program and in every row, IS THE sha256 OF THE DUMP (.gsa) THAT Qxb6627769aProg.lean LOADS. Nothing in Lean hashes anything: it is a label: what it is worth is what the hold of that sum in a sandbox is worth. -/
noncomputable def Try.pinned : Pinned := { name := "qxb6627769a", sum := "d14e097963ca529bd159c14cc473c25357a6030db9c35556bd967222bb39da35", checked := Try.checked }
namespace Rows
def none {H : Type} : Left H := { results := [], args := [] }

/-- 'zzlaws_root_b1.FnLeafsetIsNearestByRingDistance': WHATEVER THE INPUT: true; the input reads as it did. -/
def fnLeafsetIsNearestByRingDistanceSpec : ChangeSpec := { name := "fnLeafsetIsNearestByRingDistance", fn := fun _ => fun
  | [d1, d2, d3] => { results := [.lit (.bool true)], args := [d1, d2, d3] }
  | _ => none }
def fnLeafsetIsNearestByRingDistanceRow : OpenClaim := { program := "qxb6627769a", sum := "d14e097963ca529bd159c14cc473c25357a6030db9c35556bd967222bb39da35", func := "example.com/holdfast/holdfast/zzlaws_root_b1.FnLeafsetIsNearestByRingDistance", spec := "fnLeafsetIsNearestByRingDistance", recurses := true, apart := false }
def FnLeafsetIsNearestByRingDistanceSaid : Prop := fnLeafsetIsNearestByRingDistanceRow.holds Try.pinned (OpenSpec.ofChange fnLeafsetIsNearestByRingDistanceSpec)

/-- ITS FALSE NEIGHBOUR: 'it returns false'. Refute it at one input. -/
def fnLeafsetIsNearestByRingDistanceWrong : ChangeSpec := { name := "fnLeafsetIsNearestByRingDistance", fn := fun _ => fun
  | [d1, d2, d3] => { results := [.lit (.bool false)], args := [d1, d2, d3] }
  | _ => none }
def FnLeafsetIsNearestByRingDistanceWrongFalsely : Prop := fnLeafsetIsNearestByRingDistanceRow.holds Try.pinned (OpenSpec.ofChange fnLeafsetIsNearestByRingDistanceWrong)

/-- 'zzlaws_root_b1.FnLeafsetIgnoresWhetherXIsInRing': WHATEVER THE INPUT: true; the input reads as it did. -/
def fnLeafsetIgnoresWhetherXIsInRingSpec : ChangeSpec := { name := "fnLeafsetIgnoresWhetherXIsInRing", fn := fun _ => fun
  | [d1, d2, d3] => { results := [.lit (.bool true)], args := [d1, d2, d3] }
  | _ => none }
def fnLeafsetIgnoresWhetherXIsInRingRow : OpenClaim := { program := "qxb6627769a", sum := "d14e097963ca529bd159c14cc473c25357a6030db9c35556bd967222bb39da35", func := "example.com/holdfast/holdfast/zzlaws_root_b1.FnLeafsetIgnoresWhetherXIsInRing", spec := "fnLeafsetIgnoresWhetherXIsInRing", recurses := true, apart := false }
def FnLeafsetIgnoresWhetherXIsInRingSaid : Prop := fnLeafsetIgnoresWhetherXIsInRingRow.holds Try.pinned (OpenSpec.ofChange fnLeafsetIgnoresWhetherXIsInRingSpec)

/-- ITS FALSE NEIGHBOUR: 'it returns false'. Refute it at one input. -/
def fnLeafsetIgnoresWhetherXIsInRingWrong : ChangeSpec := { name := "fnLeafsetIgnoresWhetherXIsInRing", fn := fun _ => fun
  | [d1, d2, d3] => { results := [.lit (.bool false)], args := [d1, d2, d3] }
  | _ => none }
def FnLeafsetIgnoresWhetherXIsInRingWrongFalsely : Prop := fnLeafsetIgnoresWhetherXIsInRingRow.holds Try.pinned (OpenSpec.ofChange fnLeafsetIgnoresWhetherXIsInRingWrong)

end Rows
end Go.Proofs.Qxb6627769a
