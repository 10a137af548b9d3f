/-
  No cell of these rows narrows 'for every input' (looked for: loops, veiled, ifaces, maps, wideKeys, modest, calm, conditions, laid).
  DERIVED. THE GIVEN ROWS OF THIS SEAT. 2 by the template 'for every input the law returns true; each argument reads behind the call as it read before'; 0 by the template 'total and deterministic' (their statements: Qxb6627688aTotals.lean).
  GIVEN WITH THE SEED: the statements are not yours to turn. If you find one false, say at which input.
  Laid BY PROGRAM, IN A SANDBOX (cutbox-rows.mjs): the forced cells as the released guide's own fill.sh prints them over the translation bdada00b888e5363… (all of the seat's roots in one cut). By AI agents, Wed Nov 11 2026. No macro, syntax, notation, axiom, sorry.
-/
import Derived.Test.Qxb6627688aChecked
import GoSem.Claim
import GoSem.ClaimJoined
import GoSem.ClaimMapViews
import Derived.JoinedTies
import Derived.KernelRfl
namespace Go.Proofs.Qxb6627688a
/- THE CELL 'sum', in the pinned program and in every row, IS THE sha256 OF THE DUMP (.gsa) THAT Qxb6627688aProg.lean LOADS. Nothing in Lean hashes anything: it is a label: what it is worth is what the hold of that sum in a sandbox is worth. -/
noncomputable def Try.pinned : Pinned := { name := "qxb6627688a", sum := "bdada00b888e536371900fb2e19708de8e38b317de1a8c77d3eba6ad8185f27f", checked := Try.checked }
namespace Rows
def none {H : Type} : Left H := { results := [], args := [] }

/-- 'zzlaws_internal_config_b1.FnAcceptedIffEveryByteIs': WHATEVER THE INPUT: true; the input reads as it did. -/
def fnAcceptedIffEveryByteIsSpec : ChangeSpec := { name := "fnAcceptedIffEveryByteIs", fn := fun _ => fun
  | [d] => { results := [.lit (.bool true)], args := [d] }
  | _ => none }
def fnAcceptedIffEveryByteIsRow : OpenClaim := { program := "qxb6627688a", sum := "bdada00b888e536371900fb2e19708de8e38b317de1a8c77d3eba6ad8185f27f", func := "example.com/portico/portico/zzlaws_internal_config_b1.FnAcceptedIffEveryByteIs", spec := "fnAcceptedIffEveryByteIs", apart := false }
def FnAcceptedIffEveryByteIsSaid : Prop := fnAcceptedIffEveryByteIsRow.holds Try.pinned (OpenSpec.ofChange fnAcceptedIffEveryByteIsSpec)

/-- ITS FALSE NEIGHBOUR: 'it returns false'. Refute it at one input. -/
def fnAcceptedIffEveryByteIsWrong : ChangeSpec := { name := "fnAcceptedIffEveryByteIs", fn := fun _ => fun
  | [d] => { results := [.lit (.bool false)], args := [d] }
  | _ => none }
def FnAcceptedIffEveryByteIsWrongFalsely : Prop := fnAcceptedIffEveryByteIsRow.holds Try.pinned (OpenSpec.ofChange fnAcceptedIffEveryByteIsWrong)

/-- 'zzlaws_internal_config_b1.FnCutObsTextAndNoLineBreak': WHATEVER THE INPUT: true; the input reads as it did. -/
def fnCutObsTextAndNoLineBreakSpec : ChangeSpec := { name := "fnCutObsTextAndNoLineBreak", fn := fun _ => fun
  | [d1, d2] => { results := [.lit (.bool true)], args := [d1, d2] }
  | _ => none }
def fnCutObsTextAndNoLineBreakRow : OpenClaim := { program := "qxb6627688a", sum := "bdada00b888e536371900fb2e19708de8e38b317de1a8c77d3eba6ad8185f27f", func := "example.com/portico/portico/zzlaws_internal_config_b1.FnCutObsTextAndNoLineBreak", spec := "fnCutObsTextAndNoLineBreak", apart := false }
def FnCutObsTextAndNoLineBreakSaid : Prop := fnCutObsTextAndNoLineBreakRow.holds Try.pinned (OpenSpec.ofChange fnCutObsTextAndNoLineBreakSpec)

/-- ITS FALSE NEIGHBOUR: 'it returns false'. Refute it at one input. -/
def fnCutObsTextAndNoLineBreakWrong : ChangeSpec := { name := "fnCutObsTextAndNoLineBreak", fn := fun _ => fun
  | [d1, d2] => { results := [.lit (.bool false)], args := [d1, d2] }
  | _ => none }
def FnCutObsTextAndNoLineBreakWrongFalsely : Prop := fnCutObsTextAndNoLineBreakRow.holds Try.pinned (OpenSpec.ofChange fnCutObsTextAndNoLineBreakWrong)

end Rows
end Go.Proofs.Qxb6627688a
