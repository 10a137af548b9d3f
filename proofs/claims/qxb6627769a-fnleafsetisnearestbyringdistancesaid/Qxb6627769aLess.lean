/-
  cmp.Less at a number of 64 bits.
-/
import Derived.Test.Qxb6627769aSortRow
namespace Go.Proofs.Qxb6627769a
open Go.RowKit Go.Sort
set_option linter.unusedVariables false

def ult (x y : Int) : Bool := decide (x < y)

set_option maxHeartbeats 1000000 in
theorem isNaN (x : Int) (w : World) : Calls Try.prog 16 #[.int .u64 x] w fun e w' => e = .returned (.bool false) ∧ w' = w := by
  go_enter Try.func16, Try.ntmps16
  go_wp2
  go_ret
  exact ⟨by simp, rfl⟩

set_option maxHeartbeats 1000000 in
theorem less (x y : Int) (w : World) : Calls Try.prog 12 #[.int .u64 x, .int .u64 y] w fun e w' => e = .returned (.bool (ult x y)) ∧ w' = w := by
  go_enter Try.func12, Try.ntmps12
  go_wp2_with (go_at_call 16; refine (isNaN _ _).mono ?_; rintro e w' ⟨rfl, rfl⟩)
  go_ret
  exact ⟨rfl, rfl⟩

/-- A store of a number into its cell. -/
theorem storeE (x : Int) (a : Addr) (m : Mode) (w : World) : Sem.run Try.prog (store a (.int .u64 x) m) w = stored Try.prog w a (.int .u64 x) m := run_store _ w a _ m rfl

theorem swoE : SWO ult where
  irrefl := fun x => by simp [ult]
  trans := fun x y z h1 h2 => by simp only [ult, decide_eq_true_eq] at *; omega
  ntrans := fun x y z h1 h2 => by simp only [ult, decide_eq_false_iff_not] at *; omega
end Go.Proofs.Qxb6627769a
