import Derived.Test.Qxb6627646aRows
import Derived.WalkKit
import Derived.WalkSpells
import Derived.WalkLawsBesides
namespace Go.Proofs.Qxb6627646a
open Go.RowKit

/-- The slice value v reads, in the world w, as the integers xs; all cells lie below block B. -/
def IntRow (w : World) (B : Nat) (v : Value) (xs : List Int) : Prop :=
  ∃ ao cap, v = .slice ao xs.length cap ∧ ∀ k, k < xs.length → ∃ b off, ao = some ⟨b, off, none⟩ ∧ b < B ∧ w.cell? ⟨b, off + k, none⟩ = some (.int .i64 (xs.getD k 0))

theorem IntRow.below {w w' : World} {B : Nat} {v : Value} {xs : List Int} (h : IntRow w B v xs) (hb : Below B w w') : IntRow w' B v xs := by
  obtain ⟨ao, cap, hv, hc⟩ := h
  refine ⟨ao, cap, hv, fun k hk => ?_⟩
  obtain ⟨b, off, ha, hB, hcell⟩ := hc k hk
  exact ⟨b, off, ha, hB, (hb.cell (p := ⟨b, off + k, none⟩) hB).trans hcell⟩

theorem IntRow.mono {w : World} {B B' : Nat} {v : Value} {xs : List Int} (h : IntRow w B v xs) (hb : B ≤ B') : IntRow w B' v xs := by
  obtain ⟨ao, cap, hv, hc⟩ := h
  refine ⟨ao, cap, hv, fun k hk => ?_⟩
  obtain ⟨b, off, ha, hB, hcell⟩ := hc k hk
  exact ⟨b, off, ha, by omega, hcell⟩

/-- The slice value v reads as the rows xss. -/
def IntRows (w : World) (B : Nat) (v : Value) (xss : List (List Int)) : Prop :=
  ∃ ao cap, v = .slice ao xss.length cap ∧ ∀ k, k < xss.length → ∃ b off u, ao = some ⟨b, off, none⟩ ∧ b < B ∧ w.cell? ⟨b, off + k, none⟩ = some u ∧ IntRow w B u (xss.getD k [])

theorem IntRows.below {w w' : World} {B : Nat} {v : Value} {xs : List (List Int)} (h : IntRows w B v xs) (hb : Below B w w') : IntRows w' B v xs := by
  obtain ⟨ao, cap, hv, hc⟩ := h
  refine ⟨ao, cap, hv, fun k hk => ?_⟩
  obtain ⟨b, off, u, ha, hB, hcell, hu⟩ := hc k hk
  exact ⟨b, off, u, ha, hB, (hb.cell (p := ⟨b, off + k, none⟩) hB).trans hcell, hu.below hb⟩

theorem IntRows.mono {w : World} {B B' : Nat} {v : Value} {xs : List (List Int)} (h : IntRows w B v xs) (hb : B ≤ B') : IntRows w B' v xs := by
  obtain ⟨ao, cap, hv, hc⟩ := h
  refine ⟨ao, cap, hv, fun k hk => ?_⟩
  obtain ⟨b, off, u, ha, hB, hcell, hu⟩ := hc k hk
  exact ⟨b, off, u, ha, by omega, hcell, hu.mono hb⟩

/-- Is each number of the row a place in [0, n)? -/
def inRange (n : Int) (xs : List Int) : Bool := xs.all fun x => decide (0 ≤ x) && decide (x < n)

theorem ret_bool {a b : Bool} (h : a = b) : Ending.returned (.bool a) = .returned (.bool b) := by rw [h]

theorem inRange_take_succ (n : Int) (xs : List Int) (k : Nat) (hk : k < xs.length) (h0 : 0 ≤ xs.getD k 0) (h1 : xs.getD k 0 < n) (h : inRange n (xs.take k) = true) : inRange n (xs.take (k + 1)) = true := by
  have e : xs.getD k 0 = xs[k] := by simp [hk]
  rw [e] at h0 h1
  rw [List.take_succ_eq_append_getElem hk]
  simp only [inRange, List.all_append, Bool.and_eq_true] at h ⊢
  refine ⟨h, by simp [h0, h1]⟩

theorem inRange_no (n : Int) (xs : List Int) (k : Nat) (hk : k < xs.length) (h : ¬ (0 ≤ xs.getD k 0 ∧ xs.getD k 0 < n)) : inRange n xs = false := by
  have e : xs.getD k 0 = xs[k] := by simp [hk]
  rw [e] at h
  rw [Bool.eq_false_iff]
  intro hc
  simp only [inRange, List.all_eq_true, Bool.and_eq_true, decide_eq_true_eq] at hc
  exact h (hc _ (List.getElem_mem hk))

set_option maxHeartbeats 400000 in
theorem rowInRange_any (v : Value) (xs : List Int) (n : Int) (B : Nat) (w : World) (hv : IntRow w B v xs) (hl : xs.length ≤ maxLen) :
    Calls Try.prog 12 #[v, .int .i64 n] w fun e w' => e = .returned (.bool (inRange n xs)) ∧ w' = w := by
  obtain ⟨ao, cap, rfl, hc⟩ := hv
  unfold maxLen at hl
  go_enter Try.func12, Try.ntmps12
  go_wp2
  go_loop [5] (fun i => ∃ k : Nat, k ≤ xs.length ∧ i = .int .i64 k ∧ inRange n (xs.take k) = true) (fun i => xs.length - (intOf i).toNat)
  case atStart => exact ⟨0, Nat.zero_le _, rfl, rfl⟩
  case round =>
    obtain ⟨k, hk, rfl, hin⟩ := hrel
    by_cases hlt : k < xs.length
    · obtain ⟨b, off, rfl, _, hcell⟩ := hc k hlt
      clear hc
      have HI : Hid (inRange n (xs.take k) = true) := hin
      clear hin
      obtain ⟨x, hx⟩ : ∃ x, x = xs.getD k 0 := ⟨_, rfl⟩
      rw [← hx] at hcell
      have HX : Hid (x = xs.getD k 0) := hx
      clear hx
      by_cases h0 : x < 0
      · go_wp2
        go_ret
        exact ⟨ret_bool (inRange_no n xs k hlt (by rw [← HX.out]; omega)).symm, rfl⟩
      · by_cases h1 : x < n
        · go_wp2
          go_round
          case rel => exact ⟨k + 1, by omega, by go_num, inRange_take_succ n xs k hlt (by rw [← HX.out]; omega) (by rw [← HX.out]; omega) HI.out⟩
          case measure => simp [intOf]; omega
        · go_wp2
          go_ret
          exact ⟨ret_bool (inRange_no n xs k hlt (by rw [← HX.out]; omega)).symm, rfl⟩
    · go_wp2
      go_ret
      exact ⟨ret_bool (by rw [List.take_of_length_le (by omega)] at hin; exact hin.symm), rfl⟩

end Go.Proofs.Qxb6627646a
