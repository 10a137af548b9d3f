/-
  The first law's function.
-/
import Derived.Test.Qxb6627713aModel2
import Derived.Laws.CopyOwn
import Derived.Deep.OwnRows
namespace Go.Proofs.Qxb6627713a
open Go.RowKit
set_option linter.unusedVariables false

theorem info24s : (Try.prog.info? 24).map (·.size) = some 1 := by kernel_rfl

set_option maxHeartbeats 1000000 in
theorem bytes5 (a : Option Addr) (n cap : Nat) (w : World) : Calls Try.prog 5 #[.slice a n cap] w fun e w' => e = .returned (.bool (decide (n ≤ 1048576))) ∧ w' = w := by
  by_cases h : n ≤ 1048576
  · have hd : decide (n ≤ 1048576) = true := decide_eq_true h
    rw [hd]
    have hz : ¬ (1048576 : Int) < (n : Int) := by omega
    go_enter Try.func5, Try.ntmps5
    go_wp2
    go_ret
    exact ⟨rfl, rfl⟩
  · have hd : decide (n ≤ 1048576) = false := decide_eq_false h
    rw [hd]
    have hz : (1048576 : Int) < (n : Int) := by omega
    go_enter Try.func5, Try.ntmps5
    go_wp2
    go_ret
    exact ⟨rfl, rfl⟩

set_option maxHeartbeats 1000000 in
theorem zzmedian (b off len cap : Nat) (f : Nat → Nat) (hreach : len ≤ 4096) (hlen : 0 < len) (w : World) (hb : b < w.heap.size) (hcs : ∀ j, j < len → w.cell? ⟨b, off + j, none⟩ = some (.float .f64 (f j))) :
    Calls Try.prog 6 #[.slice (some ⟨b, off, none⟩) len cap] w fun e w' => MedEnd w.heap.size w (upto f len) e w' := by
  have hC := medianW b off len cap f hreach hlen w hb hcs
  clear hcs
  go_enter Try.func6, Try.ntmps6
  go_wp2_with (go_at_call 10; refine hC.mono ?_; rintro e w1 ⟨r, rfl, h1, h2⟩)
  go_ret
  exact ⟨r, rfl, h1, h2⟩

set_option maxHeartbeats 1000000 in
/-- The short ways out. -/
theorem law5_out (a : Option Addr) (n cap : Nat) (w : World) (h : n = 0 ∨ 4096 < n) : Calls Try.prog 3 #[.slice a n cap] w fun e w' => e = .returned (.bool true) ∧ w' = w := by
  rcases h with rfl | h
  · have hB := bytes5 a 0 cap
    rw [decide_eq_true (by omega)] at hB
    go_enter Try.func3, Try.ntmps3
    go_wp2_with (go_at_call 5; refine (hB _).mono ?_; rintro e w' ⟨rfl, rfl⟩)
    go_ret
    exact ⟨rfl, rfl⟩
  · by_cases h1 : n ≤ 1048576
    · have hB := bytes5 a n cap
      rw [decide_eq_true h1] at hB
      have hz : (4096 : Int) < (n : Int) := by omega
      go_enter Try.func3, Try.ntmps3
      go_wp2_with (go_at_call 5; refine (hB _).mono ?_; rintro e w' ⟨rfl, rfl⟩)
      go_ret
      exact ⟨rfl, rfl⟩
    · have hB := bytes5 a n cap
      rw [decide_eq_false h1] at hB
      clear h1 h
      go_enter Try.func3, Try.ntmps3
      go_wp2_with (go_at_call 5; refine (hB _).mono ?_; rintro e w' ⟨rfl, rfl⟩)
      go_ret
      exact ⟨rfl, rfl⟩
end Go.Proofs.Qxb6627713a
