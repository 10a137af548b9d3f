/-
  The library's scattering of a pattern.
-/
import Derived.Test.Qxb6627769aSortIns
import Derived.Test.Qxb6627769aShelf
import Derived.Sort.LotD5
import Derived.Laws.Bits64
import Derived.Laws.Bits64b
namespace Go.Proofs.Qxb6627769a
open Go.RowKit Go.Sort
set_option linter.unusedVariables false

theorem bitLenAux_eq : ∀ (f x : Nat), x < 2 ^ f → Lib.bitLenAux f x = bitsLen x := by
  intro f
  induction f with
  | zero => intro x h; obtain rfl : x = 0 := by omega
            rfl
  | succ f ih =>
    intro x h
    unfold Lib.bitLenAux
    by_cases h0 : x = 0
    · rw [if_pos h0, h0]; rfl
    · rw [if_neg h0, ih (x / 2) (by rw [Nat.pow_succ] at h; omega)]
      unfold bitsLen
      rw [if_neg h0, Nat.log2_def x]
      by_cases h2 : 2 ≤ x
      · rw [if_pos h2, if_neg (by omega)]; omega
      · rw [if_neg h2, if_pos (by omega)]

/-- How many bits a length has. -/
theorem lenBits (n : Nat) (hn : n < 4611686018427387904) (w : World) : Calls Try.prog 15 #[.int .u64 (n : Int)] w fun e w' => e = .returned (.int .i64 (bitsLen n : Nat)) ∧ w' = w := by
  have h := Try.bits_Len (n : Int) w (by omega) (by omega)
  rw [Int.toNat_natCast, show Lib.bitLen n = bitsLen n from bitLenAux_eq 64 n (by omega)] at h
  exact h

set_option maxHeartbeats 1000000 in
theorem nextPow (n : Nat) (hn : n < 4611686018427387904) (w : World) : Calls Try.prog 28 #[.int .i64 (n : Int)] w fun e w' => e = .returned (.int .u64 ((2 ^ bitsLen n : Nat) : Int)) ∧ w' = w := by
  have hk : bitsLen n ≤ 62 := (bitsLen_le_iff n 62).2 (by omega)
  have hp2 : (2 : Nat) ^ bitsLen n ≤ 2 ^ 62 := Nat.pow_le_pow_right (by decide) hk
  have hp : IntKind.u64.wrap ((2 : Int) ^ bitsLen n) = ((2 ^ bitsLen n : Nat) : Int) := by
    rw [IntKind.wrap_u64, show ((2 : Int) ^ bitsLen n) = ((2 ^ bitsLen n : Nat) : Int) by push_cast; rfl]
    generalize (2 : Nat) ^ bitsLen n = p at hp2
    omega
  clear hp2
  go_enter Try.func28, Try.ntmps28
  go_wp2_with (first | (go_at_call 15; refine (lenBits n hn _).mono ?_; rintro e w' ⟨rfl, rfl⟩))
  go_ret
  exact ⟨by first | rfl | (rw [hp]; rfl) | simp [hp], rfl⟩

theorem set_set (w : World) (b o : Nat) (v v' : Value) : (w.setCell ⟨b, o, none⟩ v).setCell ⟨b, o, none⟩ v' = w.setCell ⟨b, o, none⟩ v' := by
  rw [setCell_eq, setCell_eq, mapBlock_mapBlock, setCell_eq]
  congr 1
  funext c
  simp

set_option maxHeartbeats 2000000 in
theorem nextRandom (rb X : Nat) (hX : X < 18446744073709551616) (w : World) (hc : w.cell? ⟨rb, 0, none⟩ = some (.int .u64 X)) (hf : w.frozen? ⟨rb, 0, none⟩ = false) :
    Calls Try.prog 29 #[.pointer (some ⟨rb, 0, none⟩)] w fun e w' => e = .returned (.int .u64 (xorNextN X : Nat)) ∧ w' = (w.setCell ⟨rb, 0, none⟩ (.int .u64 (xorNextN X : Nat))).drewN 3 := by
  obtain ⟨x1, h1⟩ : ∃ x1 : Nat, x1 = X ^^^ (X * 8192 % 18446744073709551616) := ⟨_, rfl⟩
  obtain ⟨x2, h2⟩ : ∃ x2 : Nat, x2 = x1 ^^^ (x1 / 128) := ⟨_, rfl⟩
  obtain ⟨x3, h3⟩ : ∃ x3 : Nat, x3 = x2 ^^^ (x2 * 131072 % 18446744073709551616) := ⟨_, rfl⟩
  have l1 : x1 < 18446744073709551616 := by rw [h1]; exact Nat.xor_lt_two_pow (n := 64) (by omega) (by omega)
  have l2 : x2 < 18446744073709551616 := by rw [h2]; exact Nat.xor_lt_two_pow (n := 64) (by omega) (by omega)
  have e1 : bits .xor .u64 (X : Int) (IntKind.u64.wrap ((X : Int) * 8192)) = (x1 : Int) := by
    rw [IntKind.wrap_u64, show ((X : Int) * 8192 % 18446744073709551616) = ((X * 8192 % 18446744073709551616 : Nat) : Int) by omega, bits_xor_u64_nat _ _ hX (by omega), h1]
  have e2 : bits .xor .u64 (x1 : Int) ((x1 : Int) / 128) = (x2 : Int) := by
    rw [show ((x1 : Int) / 128) = ((x1 / 128 : Nat) : Int) by omega, bits_xor_u64_nat _ _ l1 (by omega), h2]
  have e3 : bits .xor .u64 (x2 : Int) (IntKind.u64.wrap ((x2 : Int) * 131072)) = (x3 : Int) := by
    rw [IntKind.wrap_u64, show ((x2 : Int) * 131072 % 18446744073709551616) = ((x2 * 131072 % 18446744073709551616 : Nat) : Int) by omega, bits_xor_u64_nat _ _ l2 (by omega), h3]
  have hv : xorNextN X = x3 := by unfold xorNextN; simp only []; rw [← h1, ← h2, ← h3]
  rw [hv]
  clear h1 h2 h3 hv
  have hss : ∀ v v', (w.setCell ⟨rb, 0, none⟩ v).setCell ⟨rb, 0, none⟩ v' = w.setCell ⟨rb, 0, none⟩ v' := set_set w rb 0
  go_enter Try.func29, Try.ntmps29
  go_wp2
  go_region
  all_goals go_wp2
  all_goals go_region
  all_goals go_wp2
  all_goals go_region
  all_goals go_wp2
  go_ret
  exact ⟨rfl, rfl⟩

section
variable {α : Type} [Inhabited α]
/-- So many rounds of the scattering, from 'idx'. -/
def brkRest (a L m : Nat) : Nat → Nat → UInt64 × Array α → UInt64 × Array α
  | 0, _, st => st
  | k + 1, idx, st => brkRest a L m k (idx + 1) (breakStep a L m st idx)
theorem brk_eq (d : Array α) (a b L : Nat) (hb : b = a + L) (h8 : 8 ≤ L) : breakPatterns d a b = (brkRest a L (2 ^ bitsLen L) 3 (a + L / 4 * 2 - 1) (UInt64.ofNat L, d)).2 := by
  subst hb
  unfold breakPatterns
  rw [show a + L - a = L by omega]
  simp only []
  rw [if_pos (by omega), Nat.one_shiftLeft]
  rfl
end
end Go.Proofs.Qxb6627769a
