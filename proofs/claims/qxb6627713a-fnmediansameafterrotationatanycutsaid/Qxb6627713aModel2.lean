/-
  The law's own model of the median; the guard on lengths.
-/
import Derived.Test.Qxb6627713aModel
import Derived.Deep.RegionWith
namespace Go.Proofs.Qxb6627713a
open Go.RowKit
open Go.Sort (Holds SWO PermIn SortedIn)
set_option linter.unusedVariables false

theorem Dn.drew {w w' : World} (h : Dn w w') : Dn w w'.drew := h.draws 1

set_option maxHeartbeats 2000000 in
theorem model (b off len cap : Nat) (f : Nat → Nat) (hreach : len ≤ 4096) (hlen : 0 < len) (w : World) (hcs : ∀ j, j < len → w.cell? ⟨b, off + j, none⟩ = some (.float .f64 (f j))) :
    Calls Try.prog 8 #[.slice (some ⟨b, off, none⟩) len cap] w fun e w' => MedEnd w.heap.size w (upto f len) e w' := by
  obtain ⟨k, hk⟩ : ∃ k, k = len / 2 := ⟨_, rfl⟩
  have hkz : (len : Int) / 2 = (k : Int) := by omega
  have hk1 : k < len := by omega
  rcases Nat.mod_two_eq_zero_or_one len with h2 | h2
  · have h2z : (len : Int) % 2 = 0 := by omega
    have h2b : ((len : Int) % 2 == 1) = false := by rw [h2z]; rfl
    obtain ⟨kp, rfl⟩ : ∃ kp, k = kp + 1 := ⟨k - 1, by omega⟩
    have hkz2 : (len : Int) / 2 = (kp : Int) + 1 := by omega
    have HM : Hid (∀ p q r W, OS (upto f len) kp p → OS (upto f len) (kp + 1) q → Avg p q r → Dn w W → MedEnd w.heap.size w (upto f len) (.returned (.float .f64 r)) W) := fun p q r W hp hq hr hW => ⟨r, rfl, Or.inr ⟨by rw [upto_length]; exact h2, p, q, by rw [upto_length, ← hk]; exact hp, by rw [upto_length, ← hk]; exact hq, hr⟩, hW.below _⟩
    have c1 := orderStat b off len cap kp f hreach (by omega) w hcs
    have c2 : ∀ W, Dn w W → Calls Try.prog 11 #[.slice (some ⟨b, off, none⟩) len cap, .int .i64 ((kp : Int) + 1)] W fun e w' => StatEnd W (upto f len) (kp + 1) e w' := fun W hW => orderStat b off len cap (kp + 1) f hreach hk1 W (fun j hj => hW.cell (hcs j hj))
    clear h2 hk hkz hcs
    go_enter Try.func8, Try.ntmps8
    go_upto_region 5 with fail
    go_wp2_with (first
      | (go_at_call_of 11 (Value.int IntKind.i64 (kp : Int)); refine c1.mono ?_; clear c1; rintro e w1 ⟨p, rfl, HP, HD1⟩))
    refine (c2 _ HD1).mono ?_
    rintro e w2 ⟨q, rfl, HQ0, HD20⟩
    have HQ : Hid (OS (upto f len) (kp + 1) q) := HQ0
    have HPP : Hid (OS (upto f len) kp p) := HP
    have HD2 : Hid (Dn w w2) := HD1.trans HD20
    clear HQ0 HP HD1 HD20 c2
    cases ha : FloatKind.f64.format.add p q with
    | some t =>
      have hadd : ∀ W : World, (binOp .add 24 (.float .f64 p) (.float .f64 q)).run Try.prog W = .ok (.float .f64 t) W := fun W => run_float_arith W .add 24 .f64 _ _ t ha
      cases hd : FloatKind.f64.format.div t 4611686018427387904 with
      | some r =>
        have hdiv : ∀ W : World, (binOp .quo 24 (.float .f64 t) (.float .f64 4611686018427387904)).run Try.prog W = .ok (.float .f64 r) W := fun W => run_float_arith W .quo 24 .f64 _ _ r hd
        have HR : Hid (Avg p q r) := ⟨t, Or.inl ha, Or.inl hd⟩
        clear ha hd
        go_wp2
        go_ret
        exact HM.out p q r _ HPP.out HQ.out HR.out HD2.out
      | none =>
        have hdiv : ∀ W : World, (binOp .quo 24 (.float .f64 t) (.float .f64 4611686018427387904)).run Try.prog W = .ok (.float .f64 (nanv t 4611686018427387904 W)) W.drew := fun W => run_nan .quo 24 _ _ W _ (Or.inr ⟨rfl, hd⟩)
        have HR : Hid (∀ W, Avg p q (nanv t 4611686018427387904 W)) := fun W => ⟨t, Or.inl ha, Or.inr ⟨hd, nanv_nan _ _ _⟩⟩
        clear ha hd
        go_wp2
        go_ret
        exact HM.out p q _ _ HPP.out HQ.out (HR.out _) HD2.out.drew
    | none =>
      have hadd : ∀ W : World, (binOp .add 24 (.float .f64 p) (.float .f64 q)).run Try.prog W = .ok (.float .f64 (nanv p q W)) W.drew := fun W => run_nan .add 24 _ _ W _ (Or.inl ⟨rfl, ha⟩)
      have hq : ∀ W : World, FloatKind.f64.format.div (nanv p q W) 4611686018427387904 = none := fun W => by
        rw [div_def, quo_nan ((fnan_iff _).1 (nanv_nan _ _ W))]
        rfl
      have hdiv : ∀ W V : World, (binOp .quo 24 (.float .f64 (nanv p q W)) (.float .f64 4611686018427387904)).run Try.prog V = .ok (.float .f64 (nanv (nanv p q W) 4611686018427387904 V)) V.drew := fun W V => run_nan .quo 24 _ _ V _ (Or.inr ⟨rfl, hq W⟩)
      have HR : Hid (∀ W V, Avg p q (nanv (nanv p q W) 4611686018427387904 V)) := fun W V => ⟨nanv p q W, Or.inr ⟨ha, nanv_nan _ _ _⟩, Or.inr ⟨hq W, nanv_nan _ _ _⟩⟩
      clear ha hq
      go_wp2
      go_ret
      exact HM.out p q _ _ HPP.out HQ.out (HR.out _ _) HD2.out.drew.drew
  · have h2z : (len : Int) % 2 = 1 := by omega
    have HM : Hid (∀ v W, OS (upto f len) k v → Dn w W → MedEnd w.heap.size w (upto f len) (.returned (.float .f64 v)) W) := fun v W hv hW => ⟨v, rfl, Or.inl ⟨by rw [upto_length]; exact h2, by rw [upto_length, ← hk]; exact hv⟩, hW.below _⟩
    have c1 := orderStat b off len cap k f hreach hk1 w hcs
    clear h2 hk hcs
    go_enter Try.func8, Try.ntmps8
    go_wp2_with (go_at_call 11; refine c1.mono ?_; rintro e w1 ⟨v, rfl, h1, h3⟩)
    go_ret
    exact HM.out v w1 h1 h3
end Go.Proofs.Qxb6627713a
