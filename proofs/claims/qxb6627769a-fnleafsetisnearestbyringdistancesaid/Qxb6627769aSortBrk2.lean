/-
  The library's scattering of a pattern: the function itself.
-/
import Derived.Test.Qxb6627769aSortBrk
namespace Go.Proofs.Qxb6627769a
open Go.RowKit Go.Sort
set_option linter.unusedVariables false

set_option maxHeartbeats 8000000 in
set_option maxRecDepth 100000 in
theorem scatter (w0 : World) (g off N cap a b : Nat) (d : Array Int) (w : World) (hA : Arr w0 g off N d w) (hab : 12 < b - a) (hb : b ≤ N) (hN : N < 4611686018427387904) :
    Calls Try.prog 19 #[.slice (some ⟨g, off, none⟩) N cap, .int .i64 a, .int .i64 b] w fun e w' => e = .returned (.tuple #[]) ∧ Hid (Arr w0 g off N (breakPatterns d a b) w') := by
  have HA : Hid (Arr w0 g off N d w) := hA
  obtain ⟨L, hL⟩ : ∃ L, b = a + L := ⟨b - a, by omega⟩
  have hL8 : 12 < L := by omega
  rw [brk_eq d a b L hL (by omega)]
  obtain ⟨m, hm⟩ : ∃ m : Nat, m = 2 ^ bitsLen L := ⟨_, rfl⟩
  have hm1 : 1 ≤ m := by rw [hm]; exact Nat.two_pow_pos _
  have hm2 : m ≤ 2 * L := by rw [hm]; exact two_pow_bitsLen_le (by omega)
  have hNP : ∀ w, Calls Try.prog 28 #[.int .i64 (L : Int)] w fun e w' => e = .returned (.int .u64 (m : Int)) ∧ w' = w := by rw [hm]; exact fun w => nextPow L (by omega) w
  rw [← hm]
  clear hm
  obtain ⟨q, hq⟩ : ∃ q, q = L / 4 := ⟨_, rfl⟩
  rw [← hq]
  have hq1 : 3 ≤ q := by omega
  have hq2 : 4 * q ≤ L := by omega
  have hqz : (L : Int) / 4 = (q : Int) := by omega
  have hLz : (b : Int) - (a : Int) = (L : Int) := by omega
  have hbN : a + L ≤ N := by omega
  clear hq
  obtain ⟨t0, ht0⟩ : ∃ t0, t0 + 1 = a + q * 2 := ⟨a + q * 2 - 1, by omega⟩
  rw [show a + q * 2 - 1 = t0 by omega]
  have ht0z : (a : Int) + (q : Int) * 2 = (t0 : Int) + 1 := by omega
  have hrb : w0.heap.size ≤ w.heap.size := hA.le
  have hgr : g < w.heap.size := hA.holds.2
  have HA2 : Hid (Arr w0 g off N d (w.alloc (.cells #[.int .u64 (L : Int)] 48))) := hA.alloc _
  clear hA HA hL hb
  have hst := storeE
  go_enter Try.func19, Try.ntmps19
  go_wp2_with (first | (go_at_call 28; refine (hNP _).mono ?_; rintro e w' ⟨rfl, rfl⟩))
  go_loopg [9] 4 (fun k vi wr => ∃ (t r : Nat) (x : UInt64) (dk : Array Int), vi = .int .i64 ((t0 : Int) + (t : Int)) ∧ t + r = 3 ∧ r ≤ k ∧ Hid (Arr w0 g off N dk wr) ∧ wr.cell? ⟨w.heap.size, 0, none⟩ = some (.int .u64 (x.toNat : Int)) ∧ wr.frozen? ⟨w.heap.size, 0, none⟩ = false ∧
    Hid (brkRest a L m r (t0 + t) (x, dk) = brkRest a L m 3 t0 (UInt64.ofNat L, d)))
  case atStart => exact ⟨0, 3, UInt64.ofNat L, d, by go_num, rfl, by omega, HA2, by rw [show ((UInt64.ofNat L).toNat : Int) = (L : Int) from by simp; omega]; simp, by simp, rfl⟩
  case round =>
    clear HA2 hNP
    obtain ⟨t, r, x, dk, rfl, htr, hk, HA, hc, hf, HB⟩ := hrel
    cases r with
    | zero =>
      obtain rfl : t = 3 := by omega
      clear htr
      go_wp2
      go_end0
      exact ⟨rfl, show Arr _ _ _ _ _ _ by rw [← HB.out]; exact HA.out⟩
    | succ r =>
      have ht : t ≤ 2 := by omega
      obtain ⟨X, hX⟩ : ∃ X : Nat, X = x.toNat := ⟨_, rfl⟩
      have lX : X < 18446744073709551616 := by rw [hX]; exact x.toNat_lt
      rw [← hX] at hc
      obtain ⟨Y, hY⟩ : ∃ Y : Nat, Y = xorNextN X := ⟨_, rfl⟩
      have lY : Y < 18446744073709551616 := by rw [hY]; exact xorNextN_lt X lX
      obtain ⟨o, ho⟩ : ∃ o : Nat, o = Y &&& (m - 1) := ⟨_, rfl⟩
      have lo : o ≤ m - 1 := by rw [ho]; exact Nat.and_le_right
      have eA : bits .and .u64 (Y : Int) ((m : Int) - 1) = (o : Int) := by
        rw [show ((m : Int) - 1) = ((m - 1 : Nat) : Int) by omega, bits_and_u64_nat _ _ lY (by omega), ho]
      obtain ⟨z, hz⟩ : ∃ z : Nat, z = if o ≥ L then o - L else o := ⟨_, rfl⟩
      have lz : z < L := by rw [hz]; split <;> omega
      have HS : Hid (breakStep a L m (x, dk) (t0 + t) = (xorNext x, swp dk (t0 + t) (a + z)) ∧ (xorNext x).toNat = Y) := by
        have hxy : (xorNext x).toNat = Y := by rw [xorNext_toNat, ← hX, hY]
        refine ⟨?_, hxy⟩
        unfold breakStep
        simp only []
        rw [hxy, ← ho, ← hz]
      have HXT := xorNext_toNat x
      obtain ⟨G, hG⟩ : ∃ G : Nat → Int, ∀ t, G t = dk[t]! := ⟨fun t => dk[t]!, fun _ => rfl⟩
      have HG : Hid (∀ t, G t = dk[t]!) := hG
      have hNext : Calls Try.prog 29 #[.pointer (some ⟨w.heap.size, 0, none⟩)] wr fun e w' => e = .returned (.int .u64 (Y : Int)) ∧ Hid (Arr w0 g off N dk w') ∧ w'.cell? ⟨w.heap.size, 0, none⟩ = some (.int .u64 (Y : Int)) ∧ w'.frozen? ⟨w.heap.size, 0, none⟩ = false := by
        refine (nextRandom w.heap.size X lX wr hc hf).mono ?_
        rintro e w' ⟨rfl, rfl⟩
        rw [← hY]
        exact ⟨rfl, (HA.out.inNew _ _ _ hrb).draws 3, World.cell?_setCell_same _ _ _ hc, by show (wr.setCell _ _).frozen? _ = false; rw [World.frozen?_setCell]; exact hf⟩
      clear hG HXT hX hY ho hc hf HA
      clear lX
      by_cases hLO : L ≤ o
      · have hzz : (o : Int) - (L : Int) = (z : Int) := by rw [hz, if_pos hLO]; omega
        have hLOz : (L : Int) ≤ (o : Int) := by omega
        clear hz
        go_wp2_with (first | (go_at_call 29; refine hNext.mono ?_; rintro e w1 ⟨rfl, HA, hc1, hf1⟩; have hcw : ∀ t, t < N → w1.cell? ⟨g, off + t, none⟩ = some (.int .u64 (G t)) := (fun t ht => by rw [HG.out]; exact HA.out.cell t ht); have hfw : ∀ t, t < N → w1.frozen? ⟨g, off + t, none⟩ = false := (fun t ht => HA.out.frozen t ht); obtain ⟨u2, hu2⟩ := HA.out.cell2 (t0 + t) (a + z) (by omega) (by omega) (.int .u64 (G (a + z)))))
        go_region
        all_goals go_wp2_with fail
        go_roundg r
        case measure => omega
        case rel =>
          refine ⟨t + 1, r, xorNext x, swp dk (t0 + t) (a + z), by go_num, by omega, Nat.le_refl _, ?_, ?_, ?_, ?_⟩
          · rw [HG.out, HG.out]
            exact (HA.out.swap (t0 + t) (a + z) (by omega) (by omega)).drew
          · rw [HS.out.2]
            refine Eq.trans (World.cell?_setCell_other _ _ _ _ (by intro e; simp only [Addr.mk.injEq] at e; omega)) (Eq.trans (World.cell?_setCell_other _ _ _ _ (by intro e; simp only [Addr.mk.injEq] at e; omega)) hc1)
          · show (World.setCell _ _ _).frozen? _ = false
            rw [World.frozen?_setCell, World.frozen?_setCell]
            exact hf1
          · show _ = _
            rw [← HB.out, brkRest, HS.out.1]
            rfl
      · have hzo : o = z := by rw [hz, if_neg hLO]
        subst hzo
        have hLOz : ¬ (L : Int) ≤ (o : Int) := by omega
        clear hz
        go_wp2_with (first | (go_at_call 29; refine hNext.mono ?_; rintro e w1 ⟨rfl, HA, hc1, hf1⟩; have hcw : ∀ t, t < N → w1.cell? ⟨g, off + t, none⟩ = some (.int .u64 (G t)) := (fun t ht => by rw [HG.out]; exact HA.out.cell t ht); have hfw : ∀ t, t < N → w1.frozen? ⟨g, off + t, none⟩ = false := (fun t ht => HA.out.frozen t ht); obtain ⟨u2, hu2⟩ := HA.out.cell2 (t0 + t) (a + o) (by omega) (by omega) (.int .u64 (G (a + o)))))
        go_region
        all_goals go_wp2_with fail
        go_roundg r
        case measure => omega
        case rel =>
          refine ⟨t + 1, r, xorNext x, swp dk (t0 + t) (a + o), by go_num, by omega, Nat.le_refl _, ?_, ?_, ?_, ?_⟩
          · rw [HG.out, HG.out]
            exact (HA.out.swap (t0 + t) (a + o) (by omega) (by omega)).drew
          · rw [HS.out.2]
            refine Eq.trans (World.cell?_setCell_other _ _ _ _ (by intro e; simp only [Addr.mk.injEq] at e; omega)) (Eq.trans (World.cell?_setCell_other _ _ _ _ (by intro e; simp only [Addr.mk.injEq] at e; omega)) hc1)
          · show (World.setCell _ _ _).frozen? _ = false
            rw [World.frozen?_setCell, World.frozen?_setCell]
            exact hf1
          · show _ = _
            rw [← HB.out, brkRest, HS.out.1]
            rfl
end Go.Proofs.Qxb6627769a
