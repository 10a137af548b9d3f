/-
  The median itself.
-/
import Derived.Test.Qxb6627713aMedian
import Derived.Laws.FloatArith
namespace Go.Proofs.Qxb6627713a
open Go.RowKit
open Go.Sort (Holds SWO PermIn SortedIn)
set_option linter.unusedVariables false

theorem values (a : Option Addr) (len cap : Nat) (w : World) :
    Calls Try.prog 13 #[.slice a len cap] w fun e w' => e = .returned (.func (.func 17) #[] #[.pointer (some ⟨w.heap.size, 0, none⟩)]) ∧ w' = w.alloc (.cells #[.slice a len cap] 22) :=
  callsIn_wide.1 (values_in Fence.wide 0 trivial rfl a len cap w)

def MedEnd (B : Nat) (w0 : World) (l : List Nat) (e : Ending) (w : World) : Prop := ∃ r, e = .returned (.float .f64 r) ∧ Med l r ∧ Below B w0 w

set_option maxHeartbeats 2000000 in
theorem medianW (b off len cap : Nat) (f : Nat → Nat) (hreach : len ≤ 4096) (hlen : 0 < len) (w : World) (hb : b < w.heap.size) (hcs : ∀ j, j < len → w.cell? ⟨b, off + j, none⟩ = some (.float .f64 (f j))) :
    Calls Try.prog 10 #[.slice (some ⟨b, off, none⟩) len cap] w fun e w' => MedEnd w.heap.size w (upto f len) e w' := by
  have hB0 : Below w.heap.size w (w.alloc (.cells #[.slice (some ⟨b, off, none⟩) len cap] 22)) := (Below.refl _ w).alloc (Nat.le_refl _) _
  have hS := sorted w.heap.size w.heap.size b off len cap f (by omega) hlen (w.alloc (.cells #[.slice (some ⟨b, off, none⟩) len cap] 22)) (by simp) (by simp) (by simp) hb (fun j hj => (hB0.cell (p := ⟨b, off + j, none⟩) hb).trans (hcs j hj))
  have HB0 : Hid (Below w.heap.size w (w.alloc (.cells #[.slice (some ⟨b, off, none⟩) len cap] 22))) := hB0
  clear hcs hB0
  go_enter Try.func10, Try.ntmps10
  go_upto_region 2 with (first | (go_at_call 13; refine (values _ _ _ _).mono ?_; rintro e w1 ⟨rfl, rfl⟩) | (go_at_call 12; refine hS.mono ?_; rintro e w2 ⟨g, c, rfl, HO⟩))
  obtain ⟨s, hp, hs, hL⟩ := HO.out
  have hsl : s.length = len := by rw [hp.length_eq, upto_length]
  obtain ⟨G, hG⟩ : ∃ G : Nat → Nat, ∀ t, G t = s[t]! := ⟨fun t => s[t]!, fun _ => rfl⟩
  have hcw : ∀ t, t < len → w2.cell? ⟨g, t, none⟩ = some (.float .f64 (G t)) := fun t ht => by rw [hG]; exact hL.cell t (by omega)
  have HOS : Hid (∀ k, k < len → OS (upto f len) k (G k)) := fun k hk => by
    have := (os_sorted s hs k (by omega)).perm hp
    rw [hG, getElem!_pos s k (by omega)]
    exact this
  have HBE : Hid (Below w.heap.size w w2) := HB0.out.trans (hL.2.2.2.mono (by simp))
  clear hS HO hp hs hL hG hsl HB0
  obtain ⟨k, hk⟩ : ∃ k, k = len / 2 := ⟨_, rfl⟩
  have hkz : (len : Int) / 2 = (k : Int) := by omega
  have hk1 : k < len := by omega
  rcases Nat.mod_two_eq_zero_or_one len with h2 | h2
  · have h2z : (len : Int) % 2 = 0 := by omega
    obtain ⟨kp, rfl⟩ : ∃ kp, k = kp + 1 := ⟨k - 1, by omega⟩
    have hkz2 : (len : Int) / 2 = (kp : Int) + 1 := by omega
    have HM : Hid (∀ r W, Avg (G kp) (G (kp + 1)) r → Below w.heap.size w W → MedEnd w.heap.size w (upto f len) (.returned (.float .f64 r)) W) := fun r W hr hW => ⟨r, rfl, Or.inr ⟨by rw [upto_length]; exact h2, _, _, by rw [upto_length, ← hk]; exact HOS.out _ (by omega), by rw [upto_length, ← hk]; exact HOS.out _ hk1, hr⟩, hW⟩
    have hc1 := hcw kp (by omega)
    have hc2 := hcw (kp + 1) (by omega)
    clear h2 hk hkz HOS hcw
    cases ha : FloatKind.f64.format.add (G kp) (G (kp + 1)) with
    | some t =>
      have hadd : ∀ W : World, (binOp .add 24 (.float .f64 (G kp)) (.float .f64 (G (kp + 1)))).run Try.prog W = .ok (.float .f64 t) W := fun W => run_float_arith W .add 24 .f64 _ _ t ha
      cases hd : FloatKind.f64.format.div t 4611686018427387904 with
      | some r =>
        have hdiv : ∀ W : World, (binOp .quo 24 (.float .f64 t) (.float .f64 4611686018427387904)).run Try.prog W = .ok (.float .f64 r) W := fun W => run_float_arith W .quo 24 .f64 _ _ r hd
        have HR : Hid (Avg (G kp) (G (kp + 1)) r) := ⟨t, Or.inl ha, Or.inl hd⟩
        clear ha hd
        go_upto_region 4 with fail
        go_region
        all_goals go_wp2
        go_ret
        exact HM.out r _ HR.out HBE.out.drew
      | none =>
        have hdiv : ∀ W : World, (binOp .quo 24 (.float .f64 t) (.float .f64 4611686018427387904)).run Try.prog W = .ok (.float .f64 (nanv t 4611686018427387904 W)) W.drew := fun W => run_nan .quo 24 _ _ W _ (Or.inr ⟨rfl, hd⟩)
        have HR : Hid (∀ W, Avg (G kp) (G (kp + 1)) (nanv t 4611686018427387904 W)) := fun W => ⟨t, Or.inl ha, Or.inr ⟨hd, nanv_nan _ _ _⟩⟩
        clear ha hd
        go_upto_region 4 with fail
        go_region
        all_goals go_wp2
        go_ret
        exact HM.out _ _ (HR.out _) HBE.out.drew.drew
    | none =>
      have hadd : ∀ W : World, (binOp .add 24 (.float .f64 (G kp)) (.float .f64 (G (kp + 1)))).run Try.prog W = .ok (.float .f64 (nanv (G kp) (G (kp + 1)) W)) W.drew := fun W => run_nan .add 24 _ _ W _ (Or.inl ⟨rfl, ha⟩)
      have hq : ∀ W : World, FloatKind.f64.format.div (nanv (G kp) (G (kp + 1)) W) 4611686018427387904 = none := fun W => by
        rw [div_def, quo_nan ((fnan_iff _).1 (nanv_nan _ _ W))]
        rfl
      have hdiv : ∀ W V : World, (binOp .quo 24 (.float .f64 (nanv (G kp) (G (kp + 1)) W)) (.float .f64 4611686018427387904)).run Try.prog V = .ok (.float .f64 (nanv (nanv (G kp) (G (kp + 1)) W) 4611686018427387904 V)) V.drew := fun W V => run_nan .quo 24 _ _ V _ (Or.inr ⟨rfl, hq W⟩)
      have HR : Hid (∀ W V, Avg (G kp) (G (kp + 1)) (nanv (nanv (G kp) (G (kp + 1)) W) 4611686018427387904 V)) := fun W V => ⟨nanv (G kp) (G (kp + 1)) W, Or.inr ⟨ha, nanv_nan _ _ _⟩, Or.inr ⟨hq W, nanv_nan _ _ _⟩⟩
      clear ha hq
      go_upto_region 4 with fail
      go_region
      all_goals go_wp2
      go_ret
      exact HM.out _ _ (HR.out _ _) HBE.out.drew.drew.drew
  · have h2z : (len : Int) % 2 = 1 := by omega
    have HM : Hid (MedEnd w.heap.size w (upto f len) (.returned (.float .f64 (G k))) w2) := ⟨G k, rfl, Or.inl ⟨by rw [upto_length]; exact h2, by rw [upto_length, ← hk]; exact HOS.out k hk1⟩, HBE.out⟩
    have hc1 := hcw k hk1
    clear h2 hk hcw
    go_wp2
    go_ret
    exact HM.out
end Go.Proofs.Qxb6627713a
