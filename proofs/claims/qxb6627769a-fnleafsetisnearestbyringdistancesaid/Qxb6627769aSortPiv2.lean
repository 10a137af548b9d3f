/-
  The library's choice of a pivot.
-/
import Derived.Test.Qxb6627769aSortPiv
namespace Go.Proofs.Qxb6627769a
open Go.RowKit Go.Sort
set_option linter.unusedVariables false

set_option maxHeartbeats 4000000 in
theorem choose (w0 : World) (g off N cap a b : Nat) (d : Array Int) (w : World) (hA : Arr w0 g off N d w) (hab : 12 < b - a) (hb : b ≤ N) (hN : N < 4611686018427387904) :
    Calls Try.prog 20 #[.slice (some ⟨g, off, none⟩) N cap, .int .i64 a, .int .i64 b] w fun e w' =>
      e = .returned (.tuple #[.int .i64 ((choosePivot ult d a b).1 : Nat), .int .i64 (hintCode (choosePivot ult d a b).2)]) ∧ Hid (Arr w0 g off N d w') := by
  have hC : Cnt w0 g off N d w.heap.size 0 (w.alloc (.cells #[.int .i64 0] 3)) := ⟨hA.alloc _, by simp, by simp, hA.le⟩
  have HC : Hid (Cnt w0 g off N d w.heap.size 0 (w.alloc (.cells #[.int .i64 0] 3))) := hC
  clear hC hA
  generalize hR : choosePivot ult d a b = R
  rw [choosePivot_eq] at hR
  unfold rawPivot at hR
  obtain ⟨L, hL⟩ : ∃ L, L = b - a := ⟨_, rfl⟩
  rw [← hL] at hR
  have hL8 : 12 < L := by omega
  rw [if_pos (show L ≥ 8 by omega)] at hR
  obtain ⟨q, hq⟩ : ∃ q, q = L / 4 := ⟨_, rfl⟩
  rw [← hq] at hR
  have hq1 : 3 ≤ q := by omega
  have hq2 : 4 * q ≤ L := by omega
  have hqz : (L : Int) / 4 = (q : Int) := by omega
  have hLz : (b : Int) - (a : Int) = (L : Int) := by omega
  have hbN : a + L ≤ N := by omega
  rw [Nat.mul_one] at hR
  obtain ⟨i, hi⟩ : ∃ i, i = a + q := ⟨_, rfl⟩
  obtain ⟨j, hj⟩ : ∃ j, j = a + q * 2 := ⟨_, rfl⟩
  obtain ⟨k, hk⟩ : ∃ k, k = a + q * 3 := ⟨_, rfl⟩
  rw [← hi, ← hj, ← hk] at hR
  have hiz : (a : Int) + (q : Int) = (i : Int) := by omega
  have hjz : (a : Int) + (q : Int) * 2 = (j : Int) := by omega
  have hkz : (a : Int) + (q : Int) * 3 = (k : Int) := by omega
  have hL8z : (8 : Int) ≤ (L : Int) := by omega
  by_cases h50 : L ≥ 50
  · rw [if_pos h50] at hR
    have h50z : (50 : Int) ≤ (L : Int) := by omega
    have hq12 : 12 ≤ q := by omega
    have b1 : 1 ≤ i ∧ i + 1 < N := by omega
    have b2 : 1 ≤ j ∧ j + 1 < N := by omega
    have b3 : 1 ≤ k ∧ k + 1 < N := by omega
    clear hL hq hi hj hk
    have c1 := medAdj w0 g off N cap i w.heap.size 0 d _ HC.out b1.1 b1.2 hN (by omega)
    have n1 := medianAdjacent_count ult d i 0
    have m1 : (medianAdjacent ult d i 0).1 < N := by rcases medianAdjacent_mem ult d i 0 with h | h | h <;> omega
    generalize medianAdjacent ult d i 0 = r1 at c1 n1 m1 hR
    obtain ⟨i1, s1⟩ := r1
    simp only [] at c1 n1 m1 hR
    have HR : Hid _ := hR
    clear hR
    go_enter Try.func20, Try.ntmps20
    go_upto_region 9 with (first | (go_at_call 30; refine c1.mono ?_; rintro e w1 ⟨rfl, HC1⟩))
    have c2 := medAdj w0 g off N cap j w.heap.size s1 d w1 HC1 b2.1 b2.2 hN (by omega)
    have n2 := medianAdjacent_count ult d j s1
    have m2 : (medianAdjacent ult d j s1).1 < N := by rcases medianAdjacent_mem ult d j s1 with h | h | h <;> omega
    have hR := HR.out
    generalize medianAdjacent ult d j s1 = r2 at c2 n2 m2 hR
    obtain ⟨i2, s2⟩ := r2
    simp only [] at c2 n2 m2 hR
    clear HR c1 HC1
    have HR : Hid _ := hR
    clear hR
    go_upto_region 10 with (first | (go_at_call 30; refine c2.mono ?_; rintro e w2 ⟨rfl, HC2⟩))
    have c3 := medAdj w0 g off N cap k w.heap.size s2 d w2 HC2 b3.1 b3.2 hN (by omega)
    have n3 := medianAdjacent_count ult d k s2
    have m3 : (medianAdjacent ult d k s2).1 < N := by rcases medianAdjacent_mem ult d k s2 with h | h | h <;> omega
    have hR := HR.out
    generalize medianAdjacent ult d k s2 = r3 at c3 n3 m3 hR
    obtain ⟨i3, s3⟩ := r3
    simp only [] at c3 n3 m3 hR
    clear HR c2 HC2
    have HR : Hid _ := hR
    clear hR
    go_upto_region 11 with (first | (go_at_call 30; refine c3.mono ?_; rintro e w3 ⟨rfl, HC3⟩))
    have c4 := med w0 g off N cap i1 i2 i3 w.heap.size s3 d w3 HC3 m1 m2 m3 hN (by omega)
    have n4 := median_count ult d i1 i2 i3 s3
    have hR := HR.out
    generalize median ult d i1 i2 i3 s3 = r4 at c4 n4 hR
    obtain ⟨jf, sf⟩ := r4
    simp only [] at c4 n4 hR
    clear HR c3 HC3
    have HRF : Hid _ := hR
    clear hR
    go_upto_region 12 with (first | (go_at_call 31; refine c4.mono ?_; rintro e wz ⟨rfl, HCF⟩))
    clear c4
    clear HC
    have hRF := HRF.out
    generalize wz = wr at HCF ⊢
    have hcc := HCF.out.2.1
    have HAF : Hid (Arr w0 g off N d wr) := HCF.out.1
    clear HCF
    by_cases h0 : sf = 0
    · subst h0
      go_wp2_with fail
      go_ret2
      refine ⟨?_, HAF⟩
      rw [← hRF]
      rfl
    · by_cases h12 : sf = 12
      · subst h12
        clear h0
        go_wp2_with fail
        go_ret2
        refine ⟨?_, HAF⟩
        rw [← hRF]
        rfl
      · have h0z : ((sf : Int) == 0) = false := beq_false_of_ne (by omega)
        have h0y : ¬ ((sf : Int) = 0) := by omega
        have h12z : ((sf : Int) == 12) = false := beq_false_of_ne (by omega)
        have h12y : ¬ ((sf : Int) = 12) := by omega
        have HE : Hid (hintOf sf = .unknown) := by show _ = _; unfold hintOf; rw [if_neg h0, if_neg h12]
        go_wp2_with fail
        go_ret2
        refine ⟨?_, HAF⟩
        rw [← hRF, HE.out]
        rfl
  · rw [if_neg h50] at hR
    have h50z : ¬ (50 : Int) ≤ (L : Int) := by omega
    have b1 : i < N := by omega
    have b2 : j < N := by omega
    have b3 : k < N := by omega
    clear hL hq hi hj hk
    have c4 := med w0 g off N cap i j k w.heap.size 0 d _ HC.out b1 b2 b3 hN (by omega)
    have n4 := median_count ult d i j k 0
    generalize median ult d i j k 0 = r4 at c4 n4 hR
    obtain ⟨jf, sf⟩ := r4
    simp only [] at c4 n4 hR
    have HRF : Hid _ := hR
    clear hR
    go_enter Try.func20, Try.ntmps20
    go_upto_region 12 with (first | (go_at_call 31; refine c4.mono ?_; rintro e wz ⟨rfl, HCF⟩))
    clear c4
    clear HC
    have hRF := HRF.out
    generalize wz = wr at HCF ⊢
    have hcc := HCF.out.2.1
    have HAF : Hid (Arr w0 g off N d wr) := HCF.out.1
    clear HCF
    by_cases h0 : sf = 0
    · subst h0
      go_wp2_with fail
      go_ret2
      refine ⟨?_, HAF⟩
      rw [← hRF]
      rfl
    · by_cases h12 : sf = 12
      · subst h12
        clear h0
        go_wp2_with fail
        go_ret2
        refine ⟨?_, HAF⟩
        rw [← hRF]
        rfl
      · have h0z : ((sf : Int) == 0) = false := beq_false_of_ne (by omega)
        have h0y : ¬ ((sf : Int) = 0) := by omega
        have h12z : ((sf : Int) == 12) = false := beq_false_of_ne (by omega)
        have h12y : ¬ ((sf : Int) = 12) := by omega
        have HE : Hid (hintOf sf = .unknown) := by show _ = _; unfold hintOf; rw [if_neg h0, if_neg h12]
        go_wp2_with fail
        go_ret2
        refine ⟨?_, HAF⟩
        rw [← hRF, HE.out]
        rfl
end Go.Proofs.Qxb6627769a
