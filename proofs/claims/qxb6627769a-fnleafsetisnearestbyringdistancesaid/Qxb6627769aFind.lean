/-
  slices.BinarySearch at ID.
-/
import Derived.Test.Qxb6627769aSortIns
namespace Go.Proofs.Qxb6627769a
open Go.RowKit
set_option linter.unusedVariables false

/-- x's place among the first n of f: all before it are less, none from it on. -/
def Place (f : Nat → Int) (n : Nat) (x : Int) (p : Nat) : Prop := p ≤ n ∧ (∀ j, j < p → f j < x) ∧ ∀ j, p ≤ j → j < n → x ≤ f j
/-- .. and whether it is there. -/
def Found (f : Nat → Int) (n : Nat) (x : Int) (p : Nat) (fd : Bool) : Prop := Place f n x p ∧ (fd = true ↔ p < n ∧ f p = x)
def FindEnd (f : Nat → Int) (n : Nat) (x : Int) (w : World) (e : Ending) (w' : World) : Prop := (∃ (p : Nat) (fd : Bool), e = .returned (.tuple #[.int .i64 (p : Int), .bool fd]) ∧ Found f n x p fd) ∧ w' = w

set_option maxHeartbeats 1000000 in
theorem isNaN13 (x : Int) (w : World) : Calls Try.prog 13 #[.int .u64 x] w fun e w' => e = .returned (.bool false) ∧ w' = w := by
  go_enter Try.func13, Try.ntmps13
  go_wp2
  go_ret
  exact ⟨by simp, rfl⟩

theorem half_le {a b : Nat} (h : a < b) : a ≤ (a + b) / 2 ∧ (a + b) / 2 < b := by omega

set_option maxHeartbeats 4000000 in
theorem find (b off n cap : Nat) (f : Nat → Int) (x : Int) (w : World) (hn : n ≤ 65536) (hcs : ∀ j, j < n → w.cell? ⟨b, off + j, none⟩ = some (.int .u64 (f j))) (hf : ∀ i j, i < j → j < n → f i < f j) :
    Calls Try.prog 10 #[.slice (some ⟨b, off, none⟩) n cap, .int .u64 x] w fun e w' => FindEnd f n x w e w' := by
  have HF : Hid (∀ i j, i < j → j < n → f i < f j) := hf
  clear hf
  go_enter Try.func10, Try.ntmps10
  go_wp2
  go_loopg [7, 8] (n + 1) (fun g v7 v8 wr => ∃ lo hi : Nat, v7 = .int .i64 (lo : Int) ∧ v8 = .int .i64 (hi : Int) ∧ lo ≤ hi ∧ hi ≤ n ∧ hi - lo ≤ g ∧ Hid ((∀ j, j < lo → f j < x) ∧ ∀ j, hi ≤ j → j < n → x ≤ f j) ∧ wr = w)
  case atStart => exact ⟨0, n, by go_num, by go_num, by omega, by omega, by omega, ⟨fun j h => absurd h (Nat.not_lt_zero _), fun j h1 h2 => by omega⟩, rfl⟩
  case round =>
    obtain ⟨lo, hi, rfl, rfl, h1, h2, hg, HP, rfl⟩ := hrel
    by_cases hlt : lo < hi
    · obtain ⟨m, hm⟩ : ∃ m, m = (lo + hi) / 2 := ⟨_, rfl⟩
      have hml : lo ≤ m := by omega
      have hmh : m < hi := by omega
      go_wp2_with (go_at_call 12; refine (less _ _ _).mono ?_; rintro e w' ⟨rfl, rfl⟩)
      · have hl : f ((lo + hi) / 2) < x := of_decide_eq_true (by assumption)
        rw [← hm] at hl
        go_roundg (hi - (m + 1))
        case measure => omega
        case rel => exact ⟨m + 1, hi, by rw [hm]; go_num, rfl, by omega, h2, Nat.le_refl _, ⟨fun j hj => by
            rcases Nat.lt_or_ge j m with h | h
            · have := HF.out j m h (by omega)
              omega
            · obtain rfl : j = m := by omega
              exact hl, HP.out.2⟩, rfl⟩
      · have hl : ¬ f ((lo + hi) / 2) < x := of_decide_eq_false (by assumption)
        rw [← hm] at hl
        go_roundg (m - lo)
        case measure => omega
        case rel => exact ⟨lo, m, rfl, by rw [hm]; go_num, hml, by omega, Nat.le_refl _, ⟨HP.out.1, fun j h3 h4 => by
            rcases Nat.lt_or_ge m j with h | h
            · have := HF.out m j h h4
              omega
            · obtain rfl : j = m := by omega
              omega⟩, rfl⟩
    · obtain rfl : lo = hi := by omega
      have HPL : Hid (Place f n x lo) := ⟨h2, HP.out⟩
      by_cases hp : lo < n
      · have hpz : (lo : Int) < (n : Int) := by omega
        by_cases hx : f lo = x
        · have hxb : (f lo == x) = true := by simp [hx]
          have HD : Hid (Found f n x lo true) := ⟨HPL.out, fun _ => ⟨hp, hx⟩, fun _ => rfl⟩
          go_wp2
          go_ret2
          exact ⟨⟨lo, _, rfl, HD.out⟩, rfl⟩
        · have hxb : (f lo == x) = false := beq_false_of_ne hx
          have HD : Hid (Found f n x lo false) := ⟨HPL.out, fun h => (by cases h), fun h => absurd h.2 hx⟩
          go_wp2_with (go_at_call 13; refine (isNaN13 _ _).mono ?_; rintro e w' ⟨rfl, rfl⟩)
          go_ret2
          exact ⟨⟨lo, _, rfl, HD.out⟩, rfl⟩
      · have HD : Hid (Found f n x lo false) := ⟨HPL.out, fun h => (by cases h), fun h => absurd h.1 hp⟩
        have hpz : ¬ (lo : Int) < (n : Int) := by omega
        go_wp2
        go_ret2
        exact ⟨⟨lo, _, rfl, HD.out⟩, rfl⟩
end Go.Proofs.Qxb6627769a
