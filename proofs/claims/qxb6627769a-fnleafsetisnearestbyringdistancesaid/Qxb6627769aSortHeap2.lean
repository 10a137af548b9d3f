/-
  The library's heap sort.
-/
import Derived.Test.Qxb6627769aSortHeap
namespace Go.Proofs.Qxb6627769a
open Go.RowKit Go.Sort
set_option linter.unusedVariables false

set_option maxHeartbeats 4000000 in
theorem heap (w0 : World) (g off N cap a b : Nat) (d : Array Int) (w : World) (hA : Arr w0 g off N d w) (hab : a < b) (hb : b ≤ N) (hN : N < 4611686018427387904) :
    Calls Try.prog 18 #[.slice (some ⟨g, off, none⟩) N cap, .int .i64 a, .int .i64 b] w fun e w' => e = .returned (.tuple #[]) ∧ Hid (Arr w0 g off N (heapSort ult d a b) w') := by
  have HA : Hid (Arr w0 g off N d w) := hA
  clear hA
  have hst := storeE
  obtain ⟨hi, rfl⟩ : ∃ hi, b = a + hi := ⟨b - a, by omega⟩
  have hq : Int.tdiv ((hi : Int) - 1) 2 = (((hi - 1) / 2 : Nat) : Int) := by
    rw [Int.tdiv_eq_ediv_of_nonneg (by omega)]; omega
  have HB : Hid (heapSort ult d a (a + hi) = heapPop ult a hi (heapBuild ult hi a ((hi - 1) / 2 + 1) d)) := by
    show _ = _
    unfold heapSort
    rw [show a + hi - a = hi by omega]
  go_enter Try.func18, Try.ntmps18
  go_wp2
  go_loopg [9] (hi + 1) (fun k vi wr => ∃ (i : Nat) (dk : Array Int), vi = .int .i64 ((i : Int) - 1) ∧ i ≤ (hi - 1) / 2 + 1 ∧ i ≤ k ∧ Hid (Arr w0 g off N dk wr) ∧ Hid (heapBuild ult hi a i dk = heapBuild ult hi a ((hi - 1) / 2 + 1) d))
  case atStart => exact ⟨(hi - 1) / 2 + 1, d, by go_num, Nat.le_refl _, by omega, HA, rfl⟩
  case round =>
    clear HA
    obtain ⟨i, dk, rfl, hi1, hk, HA, HO⟩ := hrel
    cases i with
    | zero =>
      go_wp2
      have HA2 : Hid (Arr w0 g off N (heapBuild ult hi a ((hi - 1) / 2 + 1) d) wr) := by rw [← HO.out]; exact HA.out
      clear HA HO
      go_loopg [10] (hi + 1) (fun k vi wr => ∃ (i : Nat) (dk : Array Int), vi = .int .i64 ((i : Int) - 1) ∧ i ≤ hi ∧ i ≤ k ∧ Hid (Arr w0 g off N dk wr) ∧ Hid (heapPop ult a i dk = heapPop ult a hi (heapBuild ult hi a ((hi - 1) / 2 + 1) d)))
      case atStart => exact ⟨hi, _, by go_num, Nat.le_refl _, by omega, HA2, rfl⟩
      case round =>
        clear HA2
        obtain ⟨i, dk, rfl, hi2, hk2, HA, HO⟩ := hrel
        cases i with
        | zero =>
          go_wp2
          go_end0
          exact ⟨rfl, show Arr _ _ _ _ _ _ by rw [HB.out, ← HO.out]; exact HA.out⟩
        | succ i =>
          obtain ⟨G, hG⟩ : ∃ G : Nat → Int, ∀ t, G t = dk[t]! := ⟨fun t => dk[t]!, fun _ => rfl⟩
          have hcw : ∀ t, t < N → wr.cell? ⟨g, off + t, none⟩ = some (.int .u64 (G t)) := fun t ht => by rw [hG]; exact HA.out.cell t ht
          have hfw : ∀ t, t < N → wr.frozen? ⟨g, off + t, none⟩ = false := fun t ht => HA.out.frozen t ht
          have HG : Hid (∀ t, G t = dk[t]!) := hG
          clear hG
          rw [show (((i + 1 : Nat) : Int) - 1) = (i : Int) by omega]
          obtain ⟨u2, hu2⟩ := HA.out.cell2 a (a + i) (by omega) (by omega) (.int .u64 (G (a + i)))
          go_wp2
          go_region
          have HA2 : Hid (Arr w0 g off N (swp dk a (a + i)) ((wr.setCell ⟨g, off + a, none⟩ (.int .u64 (G (a + i)))).setCell ⟨g, off + (a + i), none⟩ (.int .u64 (G a))).drew) := by
            show Arr _ _ _ _ _ _
            rw [HG.out, HG.out]
            exact (HA.out.swap a (a + i) (by omega) (by omega)).drew
          clear HA hcw hfw hu2
          generalize ((wr.setCell ⟨g, off + a, none⟩ (.int .u64 (G (a + i)))).setCell ⟨g, off + (a + i), none⟩ (.int .u64 (G a))).drew = wr at HA2 ⊢
          have hC := sift w0 g off N cap 0 i a _ wr HA2.out (by omega) (by omega) hN
          go_wp2_with (go_at_call 27; refine hC.mono ?_; rintro e w1 ⟨rfl, HA1⟩)
          go_roundg i
          case measure => omega
          case rel => exact ⟨i, _, by first | rfl | go_num, by omega, Nat.le_refl _, HA1, HO⟩
    | succ i =>
      rw [show (((i + 1 : Nat) : Int) - 1) = (i : Int) by omega]
      have hC := sift w0 g off N cap i hi a dk wr HA.out (by omega) (by omega) hN
      rw [show ((hi : Nat) : Int) = (a : Int) + (hi : Int) - (a : Int) by omega] at hC
      go_wp2_with (go_at_call 27; refine hC.mono ?_; rintro e w1 ⟨rfl, HA1⟩)
      go_roundg i
      case measure => omega
      case rel => exact ⟨i, _, by first | rfl | go_num, by omega, Nat.le_refl _, HA1, HO⟩
end Go.Proofs.Qxb6627769a
