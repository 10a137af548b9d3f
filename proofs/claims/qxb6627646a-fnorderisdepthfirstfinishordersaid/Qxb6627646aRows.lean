/-
  NARROWER THAN 'FOR EVERY INPUT', by the rows' own cells (each row's printed sentence says how): FnOrderIsDepthFirstFinishOrder: maps · FnOrderPutsNewLastStepLast: maps.
  DERIVED. THE GIVEN ROWS OF THIS SEAT. 2 by the template 'for every input the law returns true; each argument reads behind the call as it read before'; 0 by the template 'total and deterministic' (their statements: Qxb6627646aTotals.lean).
  GIVEN WITH THE SEED: the statements are not yours to turn. If you find one false, say at which input.
  Laid BY PROGRAM, IN A SANDBOX (cutbox-rows.mjs): the forced cells as the released guide's own fill.sh prints them over the translation e0b834c8831e2558… (all of the seat's roots in one cut). By AI agents, Wed Nov 11 2026. No macro, syntax, notation, axiom, sorry.
-/
import Derived.Test.Qxb6627646aChecked
import GoSem.Claim
import GoSem.ClaimJoined
import GoSem.ClaimMapViews
import Derived.JoinedTies
import Derived.KernelRfl
namespace Go.Proofs.Qxb6627646a
/- THE CELL 'sum', in the pinned program and in every row, IS THE sha256 OF THE DUMP (.gsa) THAT Qxb6627646aProg.lean LOADS. Nothing in Lean hashes anything: it is a label: what it is worth is what the hold of that sum in a sandbox is worth. -/
noncomputable def Try.pinned : Pinned := { name := "qxb6627646a", sum := "e0b834c8831e2558a70d1a47faf4f2d1b0bc99fa6f6724e87cf2a9dccf790217", checked := Try.checked }
namespace Rows
def none {H : Type} : Left H := { results := [], args := [] }

/-- 'zzlaws_pkg_workflow_b1.FnOrderIsDepthFirstFinishOrder': WHATEVER THE INPUT: true; the input reads as it did. -/
def fnOrderIsDepthFirstFinishOrderSpec : ChangeSpec := { name := "fnOrderIsDepthFirstFinishOrder", fn := fun _ => fun
  | [d1, d2, d3] => { results := [.lit (.bool true)], args := [d1, d2, d3] }
  | _ => none }
def fnOrderIsDepthFirstFinishOrderRow : OpenClaim := { program := "qxb6627646a", sum := "e0b834c8831e2558a70d1a47faf4f2d1b0bc99fa6f6724e87cf2a9dccf790217", func := "example.com/prudent-workflow/prudent-workflow/zzlaws_pkg_workflow_b1.FnOrderIsDepthFirstFinishOrder", spec := "fnOrderIsDepthFirstFinishOrder", unfollowed := true, recurses := true, maps := true, apart := false }
def FnOrderIsDepthFirstFinishOrderSaid : Prop := fnOrderIsDepthFirstFinishOrderRow.holds Try.pinned (OpenSpec.ofChange fnOrderIsDepthFirstFinishOrderSpec)

/-- ITS FALSE NEIGHBOUR: 'it returns false'. Refute it at one input. -/
def fnOrderIsDepthFirstFinishOrderWrong : ChangeSpec := { name := "fnOrderIsDepthFirstFinishOrder", fn := fun _ => fun
  | [d1, d2, d3] => { results := [.lit (.bool false)], args := [d1, d2, d3] }
  | _ => none }
def FnOrderIsDepthFirstFinishOrderWrongFalsely : Prop := fnOrderIsDepthFirstFinishOrderRow.holds Try.pinned (OpenSpec.ofChange fnOrderIsDepthFirstFinishOrderWrong)

/-- 'zzlaws_pkg_workflow_b1.FnOrderPutsNewLastStepLast': WHATEVER THE INPUT: true; the input reads as it did. -/
def fnOrderPutsNewLastStepLastSpec : ChangeSpec := { name := "fnOrderPutsNewLastStepLast", fn := fun _ => fun
  | [d1, d2, d3, d4] => { results := [.lit (.bool true)], args := [d1, d2, d3, d4] }
  | _ => none }
def fnOrderPutsNewLastStepLastRow : OpenClaim := { program := "qxb6627646a", sum := "e0b834c8831e2558a70d1a47faf4f2d1b0bc99fa6f6724e87cf2a9dccf790217", func := "example.com/prudent-workflow/prudent-workflow/zzlaws_pkg_workflow_b1.FnOrderPutsNewLastStepLast", spec := "fnOrderPutsNewLastStepLast", unfollowed := true, recurses := true, maps := true, apart := false }
def FnOrderPutsNewLastStepLastSaid : Prop := fnOrderPutsNewLastStepLastRow.holds Try.pinned (OpenSpec.ofChange fnOrderPutsNewLastStepLastSpec)

/-- ITS FALSE NEIGHBOUR: 'it returns false'. Refute it at one input. -/
def fnOrderPutsNewLastStepLastWrong : ChangeSpec := { name := "fnOrderPutsNewLastStepLast", fn := fun _ => fun
  | [d1, d2, d3, d4] => { results := [.lit (.bool false)], args := [d1, d2, d3, d4] }
  | _ => none }
def FnOrderPutsNewLastStepLastWrongFalsely : Prop := fnOrderPutsNewLastStepLastRow.holds Try.pinned (OpenSpec.ofChange fnOrderPutsNewLastStepLastWrong)

end Rows
end Go.Proofs.Qxb6627646a
