/-
  cmp.Less at float64.
-/
import Derived.Test.Qxb6627713aSortRow
namespace Go.Proofs.Qxb6627713a
open Go.RowKit Go.Sort
set_option linter.unusedVariables false

def fnan (x : Nat) : Bool := FloatKind.f64.format.order x x != some .eq
/-- A NaN lies ahead of every other number. -/
def flt (x y : Nat) : Bool := (fnan x && !fnan y) || FloatKind.f64.format.order x y == some .lt

set_option maxHeartbeats 1000000 in
theorem isNaN (x : Nat) (w : World) : Calls Try.prog 37 #[.float .f64 x] w fun e w' => e = .returned (.bool (fnan x)) ∧ w' = w := by
  go_enter Try.func37, Try.ntmps37
  go_wp2
  go_ret
  exact ⟨rfl, rfl⟩

set_option maxHeartbeats 1000000 in
theorem less (x y : Nat) (w : World) : Calls Try.prog 27 #[.float .f64 x, .float .f64 y] w fun e w' => e = .returned (.bool (flt x y)) ∧ w' = w := by
  go_enter Try.func27, Try.ntmps27
  cases hx : fnan x <;> cases hy : fnan y
  all_goals
    go_wp2_with (go_at_call 37; refine (isNaN _ _).mono ?_; rintro e w' ⟨rfl, rfl⟩)
    go_ret
    refine ⟨?_, rfl⟩
    simp [flt, hx, hy]
/-- A store of a number into its cell. -/
theorem storeE (x : Nat) (a : Addr) (m : Mode) (w : World) : Sem.run Try.prog (store a (.float .f64 x) m) w = stored Try.prog w a (.float .f64 x) m := run_store _ w a _ m rfl
end Go.Proofs.Qxb6627713a
