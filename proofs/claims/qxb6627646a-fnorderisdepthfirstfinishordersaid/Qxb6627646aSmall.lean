import Derived.Test.Qxb6627646aReads
import Derived.Deep.QuietTactic
import Derived.BigQuiet
namespace Go.Proofs.Qxb6627646a
open Go.RowKit
set_option linter.unusedVariables false

def rowsInRange (n : Int) (xss : List (List Int)) : Bool := xss.all (inRange n)

theorem rowsInRange_take_succ (n : Int) (xs : List (List Int)) (k : Nat) (hk : k < xs.length) (h0 : inRange n (xs.getD k []) = true) (h : rowsInRange n (xs.take k) = true) : rowsInRange n (xs.take (k + 1)) = true := by
  have e : xs.getD k [] = xs[k] := by simp [hk]
  rw [e] at h0
  rw [List.take_succ_eq_append_getElem hk]
  simp only [rowsInRange, List.all_append, Bool.and_eq_true] at h ⊢
  refine ⟨h, by simp [h0]⟩

theorem rowsInRange_no (n : Int) (xs : List (List Int)) (k : Nat) (hk : k < xs.length) (h : inRange n (xs.getD k []) = false) : rowsInRange n xs = false := by
  have e : xs.getD k [] = xs[k] := by simp [hk]
  rw [e] at h
  rw [Bool.eq_false_iff]
  intro hc
  simp only [rowsInRange, List.all_eq_true] at hc
  have := hc _ (List.getElem_mem hk)
  rw [h] at this
  cases this

set_option maxHeartbeats 400000 in
theorem rowsInRange_any (v : Value) (xss : List (List Int)) (n : Int) (B : Nat) (w : World) (hv : IntRows w B v xss) (hl : xss.length ≤ maxLen) (hll : ∀ k, (xss.getD k []).length ≤ maxLen) :
    Calls Try.prog 6 #[v, .int .i64 n] w fun e w' => e = .returned (.bool (rowsInRange n xss)) ∧ w' = w := by
  obtain ⟨ao, cap, rfl, hc⟩ := hv
  unfold maxLen at hl
  go_enter Try.func6, Try.ntmps6
  go_wp2
  go_loop [5] (fun i => ∃ k : Nat, k ≤ xss.length ∧ i = .int .i64 k ∧ rowsInRange n (xss.take k) = true) (fun i => xss.length - (intOf i).toNat)
  case atStart => exact ⟨0, Nat.zero_le _, rfl, rfl⟩
  case round =>
    obtain ⟨k, hk, rfl, hin⟩ := hrel
    have HI : Hid (rowsInRange n (xss.take k) = true) := hin
    clear hin
    by_cases hlt : k < xss.length
    · obtain ⟨b, off, u, rfl, _, hcell, hu⟩ := hc k hlt
      have hlk := hll k
      clear hc hll
      obtain ⟨r, hr⟩ : ∃ r, r = inRange n (xss.getD k []) := ⟨_, rfl⟩
      have hcon := rowInRange_any u (xss.getD k []) n B w hu hlk
      rw [← hr] at hcon
      have HC := hcon
      have HR : Hid (r = inRange n (xss.getD k [])) := hr
      clear hr hcon hu hlk
      cases r with
      | true =>
        go_wp2_with (go_at_call 12; refine HC.mono ?_; rintro e w' ⟨rfl, rfl⟩)
        go_round
        case rel => exact ⟨k + 1, by omega, by go_num, rowsInRange_take_succ n xss k hlt HR.out.symm HI.out⟩
        case measure => simp [intOf]; omega
      | false =>
        go_wp2_with (go_at_call 12; refine HC.mono ?_; rintro e w' ⟨rfl, rfl⟩)
        go_ret
        exact ⟨ret_bool (rowsInRange_no n xss k hlt HR.out.symm).symm, rfl⟩
    · go_wp2
      go_ret
      have hin := HI.out
      exact ⟨ret_bool (by rw [List.take_of_length_le (by omega)] at hin; exact hin.symm), rfl⟩

/-! ### zzEqual -/
theorem beq_no (xs ys : List Int) (k : Nat) (h : xs.getD k 0 ≠ ys.getD k 0) : (xs == ys) = false := by
  rw [Bool.eq_false_iff]
  intro hc
  have := eq_of_beq hc
  subst this
  exact h rfl

theorem beq_all (xs ys : List Int) (hl : xs.length = ys.length) (h : ∀ j, j < xs.length → xs.getD j 0 = ys.getD j 0) : (xs == ys) = true := by
  have : xs = ys := by
    refine List.ext_getElem hl fun j h1 h2 => ?_
    have := h j h1
    simpa [h1, h2] using this
  simp [this]

set_option maxHeartbeats 400000 in
theorem equal_any (v u : Value) (xs ys : List Int) (B : Nat) (w : World) (hv : IntRow w B v xs) (hu : IntRow w B u ys) (hl : xs.length ≤ maxLen) (hl' : ys.length ≤ maxLen) :
    Calls Try.prog 10 #[v, u] w fun e w' => e = .returned (.bool (xs == ys)) ∧ ∃ n, w' = w.drewN n := by
  obtain ⟨ao, cap, rfl, hc⟩ := hv
  obtain ⟨ao', cap', rfl, hc'⟩ := hu
  unfold maxLen at hl hl'
  by_cases hle : xs.length = ys.length
  · have HL : Hid (xs.length = ys.length) := hle
    rw [hle]
    rw [hle] at hl hc
    clear hle
    obtain ⟨m, hm⟩ : ∃ m, m = ys.length := ⟨_, rfl⟩
    rw [← hm]
    rw [← hm] at hl hl' hc hc'
    have HM : Hid (m = ys.length) := hm
    clear hm
    go_enter Try.func10, Try.ntmps10
    go_wp2
    go_loopw [5] (fun i wr => ∃ k : Nat, k ≤ m ∧ i = .int .i64 k ∧ (∀ j, j < k → xs.getD j 0 = ys.getD j 0) ∧ ∃ q, wr = w.drewN q) (fun i _ => m - (intOf i).toNat)
    case atStart => exact ⟨0, Nat.zero_le _, rfl, fun j h => absurd h (Nat.not_lt_zero _), 0, rfl⟩
    case round =>
      obtain ⟨k, hk, rfl, hin, q, rfl⟩ := hrel
      have HI : Hid (∀ j, j < k → xs.getD j 0 = ys.getD j 0) := hin
      clear hin
      by_cases hlt : k < m
      · obtain ⟨b, off, rfl, _, hcell⟩ := hc k hlt
        obtain ⟨b', off', rfl, _, hcell'⟩ := hc' k hlt
        clear hc hc'
        obtain ⟨x, hx⟩ : ∃ x, x = xs.getD k 0 := ⟨_, rfl⟩
        obtain ⟨y, hy⟩ : ∃ y, y = ys.getD k 0 := ⟨_, rfl⟩
        rw [← hx] at hcell
        rw [← hy] at hcell'
        have HX : Hid (x = xs.getD k 0) := hx
        have HY : Hid (y = ys.getD k 0) := hy
        clear hx hy
        have hlt' : (k : Int) < (m : Int) := by omega
        by_cases hxy : x = y
        · have ht : (x != y) = false := by simp [hxy]
          have HXY : Hid (x = y) := hxy
          clear hxy
          go_wp2
          go_quiet (fail)
          go_wp2
          go_roundw
          case rel =>
            refine ⟨k + 1, by omega, by go_num, fun j hj => ?_, _, rfl⟩
            by_cases hjk : j = k
            · subst hjk; rw [← HX.out, ← HY.out]; exact HXY.out
            · exact HI.out j (by omega)
          case measure => simp [intOf]; omega
        · have ht : (x != y) = true := by simp [hxy]
          go_wp2
          go_quiet (fail)
          go_wp2
          go_ret
          refine ⟨ret_bool (beq_no xs ys k ?_).symm, _, World.drewN_drewN _ _ _⟩
          rw [← HX.out, ← HY.out]; exact hxy
      · go_wp2
        go_ret
        exact ⟨ret_bool (beq_all xs ys HL.out fun j hj => HI.out j (by rw [HL.out, ← HM.out] at hj; omega)).symm, q, rfl⟩
  · have hne : ((xs.length : Int) != (ys.length : Int)) = true := by simp; omega
    go_enter Try.func10, Try.ntmps10
    go_wp2
    go_ret
    refine ⟨ret_bool ?_, 0, rfl⟩
    symm
    rw [Bool.eq_false_iff]
    intro hc
    exact hle (by rw [eq_of_beq hc])

end Go.Proofs.Qxb6627646a
