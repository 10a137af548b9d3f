/-
  The law on ring distances: its guards.
-/
import Derived.Test.Qxb6627769aLeaf
namespace Go.Proofs.Qxb6627769a
open Go.RowKit
set_option linter.unusedVariables false

set_option maxHeartbeats 1000000 in
set_option maxRecDepth 100000 in
theorem law8_out (x : Int) (a : Option Addr) (n cap : Nat) (l : Int) (w : World) (h : 4096 < n ∨ l < 0 ∨ 65536 < l) : Calls Try.prog 3 #[.int .u64 x, .slice a n cap, .int .i64 l] w fun e w' => e = .returned (.bool true) ∧ w' = w := by
  by_cases h1 : n ≤ 1048576
  · have hB := bytes5 x a n cap l
    rw [decide_eq_true h1] at hB
    by_cases h2 : 4096 < n
    · have hz : (4096 : Int) < (n : Int) := by omega
      clear h
      go_enter Try.func3, Try.ntmps3
      go_wp2_with (go_at_call 5; refine (hB _).mono ?_; rintro e w' ⟨rfl, rfl⟩)
      go_ret
      exact ⟨rfl, rfl⟩
    · have hz : ¬ (4096 : Int) < (n : Int) := by omega
      by_cases h4 : l < 0
      · clear h
        have hd4 : decide (l < 0) = true := decide_eq_true h4
        go_enter Try.func3, Try.ntmps3
        go_wp2_with (go_at_call 5; refine (hB _).mono ?_; rintro e w' ⟨rfl, rfl⟩)
        go_ret
        exact ⟨rfl, rfl⟩
      · have h5 : 65536 < l := by omega
        have hd4 : decide (l < 0) = false := decide_eq_false h4
        clear h
        go_enter Try.func3, Try.ntmps3
        go_wp2_with (go_at_call 5; refine (hB _).mono ?_; rintro e w' ⟨rfl, rfl⟩)
        go_ret
        exact ⟨rfl, rfl⟩
  · have hB := bytes5 x a n cap l
    rw [decide_eq_false h1] at hB
    clear h1 h
    go_enter Try.func3, Try.ntmps3
    go_wp2_with (go_at_call 5; refine (hB _).mono ?_; rintro e w' ⟨rfl, rfl⟩)
    go_ret
    exact ⟨rfl, rfl⟩
end Go.Proofs.Qxb6627769a
