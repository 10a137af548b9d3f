/-
  The library's sift and heap sort.
-/
import Derived.Test.Qxb6627769aSortIns
namespace Go.Proofs.Qxb6627769a
open Go.RowKit Go.Sort
set_option linter.unusedVariables false

section
variable {α : Type} [Inhabited α] {lt : α → α → Bool}
theorem sift_end {hi F r : Nat} {d : Array α} (h : 2 * r + 1 ≥ hi) : siftDown lt hi F r d = d := by rw [siftDown, dif_pos h]
theorem sift_one {hi F r : Nat} {d : Array α} (h : ¬ 2 * r + 1 ≥ hi) (hc : ¬ 2 * r + 2 < hi ∨ lt d[F + 2 * r + 1]! d[F + 2 * r + 2]! = false) :
    siftDown lt hi F r d = if lt d[F + r]! d[F + 2 * r + 1]! = true then siftDown lt hi F (2 * r + 1) (swp d (F + r) (F + 2 * r + 1)) else d := by
  have hf : (decide (2 * r + 1 + 1 < hi) && lt d[F + (2 * r + 1)]! d[F + (2 * r + 1) + 1]!) = false := by
    rcases hc with hc | hc
    · rw [decide_eq_false (by omega)]; rfl
    · rw [show F + (2 * r + 1) = F + 2 * r + 1 by omega, show F + 2 * r + 1 + 1 = F + 2 * r + 2 by omega, hc, Bool.and_false]
  rw [siftDown, dif_neg h, if_neg (by rw [hf]; exact Bool.false_ne_true), show F + (2 * r + 1) = F + 2 * r + 1 by omega]
  cases lt d[F + r]! d[F + 2 * r + 1]! <;> rfl
theorem sift_two {hi F r : Nat} {d : Array α} (h : 2 * r + 2 < hi) (hc : lt d[F + 2 * r + 1]! d[F + 2 * r + 2]! = true) :
    siftDown lt hi F r d = if lt d[F + r]! d[F + 2 * r + 2]! = true then siftDown lt hi F (2 * r + 2) (swp d (F + r) (F + 2 * r + 2)) else d := by
  have hf : (decide (2 * r + 1 + 1 < hi) && lt d[F + (2 * r + 1)]! d[F + (2 * r + 1) + 1]!) = true := by
    rw [decide_eq_true (by omega), show F + (2 * r + 1) = F + 2 * r + 1 by omega, show F + 2 * r + 1 + 1 = F + 2 * r + 2 by omega, hc]; rfl
  rw [siftDown, dif_neg (by omega), if_pos hf, dif_pos h, show F + (2 * r + 2) = F + 2 * r + 2 by omega]
  cases lt d[F + r]! d[F + 2 * r + 2]! <;> rfl
end

set_option maxHeartbeats 4000000 in
theorem sift (w0 : World) (g off N cap lo hi F : Nat) (d : Array Int) (w : World) (hA : Arr w0 g off N d w) (hab : lo ≤ hi) (hb : F + hi ≤ N) (hN : N < 4611686018427387904) :
    Calls Try.prog 27 #[.slice (some ⟨g, off, none⟩) N cap, .int .i64 lo, .int .i64 hi, .int .i64 F] w fun e w' => e = .returned (.tuple #[]) ∧ Hid (Arr w0 g off N (siftDown ult hi F lo d) w') := by
  have HA : Hid (Arr w0 g off N d w) := hA
  clear hA
  have hst := storeE
  go_enter Try.func27, Try.ntmps27
  go_wp2
  go_loopg [8] hi (fun k vi wr => ∃ (r : Nat) (dk : Array Int), vi = .int .i64 r ∧ r ≤ hi ∧ hi - r ≤ k ∧ Hid (Arr w0 g off N dk wr) ∧ Hid (siftDown ult hi F r dk = siftDown ult hi F lo d))
  case atStart => exact ⟨lo, d, rfl, by omega, by omega, HA, rfl⟩
  case round =>
    clear HA
    obtain ⟨r, dk, rfl, hr, hk, HA, HO⟩ := hrel
    by_cases hlt : 2 * r + 1 ≥ hi
    · go_wp2
      go_end0
      exact ⟨rfl, show Arr _ _ _ _ _ _ by rw [← HO.out, sift_end hlt]; exact HA.out⟩
    · obtain ⟨G, hG⟩ : ∃ G : Nat → Int, ∀ t, G t = dk[t]! := ⟨fun t => dk[t]!, fun _ => rfl⟩
      have hcw : ∀ t, t < N → wr.cell? ⟨g, off + t, none⟩ = some (.int .u64 (G t)) := fun t ht => by rw [hG]; exact HA.out.cell t ht
      have hfw : ∀ t, t < N → wr.frozen? ⟨g, off + t, none⟩ = false := fun t ht => HA.out.frozen t ht
      have HG : Hid (∀ t, G t = dk[t]!) := hG
      clear hG
      by_cases hg : 2 * r + 1 + 1 < hi
      · have hz : 2 * (r : Int) + 1 + 1 < (hi : Int) := by omega
        have hzd : decide (2 * (r : Int) + 1 + 1 < (hi : Int)) = true := decide_eq_true hz
        cases hl : ult (G (F + 2 * r + 1)) (G (F + 2 * r + 2))
        · have HP : Hid _ := sift_one (lt := ult) hlt (Or.inr (by rw [← HG.out, ← HG.out]; exact hl))
          go_wp2
          go_quiet (first | (go_at_call 12; refine Calls.quiet_of_same (less _ _ _)))
          replace HA : Hid (Arr w0 g off N _ (wr.drewN nq)) := HA.out.draws nq
          replace hcw : ∀ t, t < N → (wr.drewN nq).cell? ⟨g, off + t, none⟩ = some (.int .u64 (G t)) := hcw
          replace hfw : ∀ t, t < N → (wr.drewN nq).frozen? ⟨g, off + t, none⟩ = false := hfw
          generalize wr.drewN nq = wr at HA hcw hfw ⊢
          clear nq
          cases hm : ult (G (F + r)) (G (F + 2 * r + 1))
          · have HE : Hid _ := HO.out.symm.trans (HP.out.trans (if_neg (by rw [← HG.out, ← HG.out, hm]; exact Bool.false_ne_true)))
            go_wp2
            go_quiet (first | (go_at_call 12; refine Calls.quiet_of_same (less _ _ _)))
            replace HA : Hid (Arr w0 g off N _ (wr.drewN nq)) := HA.out.draws nq
            replace hcw : ∀ t, t < N → (wr.drewN nq).cell? ⟨g, off + t, none⟩ = some (.int .u64 (G t)) := hcw
            replace hfw : ∀ t, t < N → (wr.drewN nq).frozen? ⟨g, off + t, none⟩ = false := hfw
            generalize wr.drewN nq = wr at HA hcw hfw ⊢
            clear nq
            go_wp2
            (try simp only [Exit.inBlock, Exit.then]); refine bodyPost_ret (v := .tuple #[]) (results_none rfl _ _ _) rfl ?_
            exact ⟨rfl, show Arr _ _ _ _ _ _ by rw [HE.out]; exact HA.out⟩
          · have HE : Hid _ := HO.out.symm.trans (HP.out.trans (if_pos (by rw [← HG.out, ← HG.out, hm])))
            go_wp2
            go_quiet (first | (go_at_call 12; refine Calls.quiet_of_same (less _ _ _)))
            replace HA : Hid (Arr w0 g off N _ (wr.drewN nq)) := HA.out.draws nq
            replace hcw : ∀ t, t < N → (wr.drewN nq).cell? ⟨g, off + t, none⟩ = some (.int .u64 (G t)) := hcw
            replace hfw : ∀ t, t < N → (wr.drewN nq).frozen? ⟨g, off + t, none⟩ = false := hfw
            generalize wr.drewN nq = wr at HA hcw hfw ⊢
            clear nq
            go_wp2
            go_region
            all_goals go_wp2
            go_roundg (hi - (2 * r + 1))
            case measure => omega
            case rel =>
              refine ⟨2 * r + 1, swp dk (F + r) (F + 2 * r + 1), by first | rfl | go_num, by omega, Nat.le_refl _, ?_, HE.out.symm⟩
              rw [HG.out, HG.out]
              exact (HA.out.drew.swap (F + r) (F + 2 * r + 1) (by omega) (by omega))
        · have HP : Hid _ := sift_two (lt := ult) hg (by rw [← HG.out, ← HG.out]; exact hl)
          go_wp2
          go_quiet (first | (go_at_call 12; refine Calls.quiet_of_same (less _ _ _)))
          replace HA : Hid (Arr w0 g off N _ (wr.drewN nq)) := HA.out.draws nq
          replace hcw : ∀ t, t < N → (wr.drewN nq).cell? ⟨g, off + t, none⟩ = some (.int .u64 (G t)) := hcw
          replace hfw : ∀ t, t < N → (wr.drewN nq).frozen? ⟨g, off + t, none⟩ = false := hfw
          generalize wr.drewN nq = wr at HA hcw hfw ⊢
          clear nq
          cases hm : ult (G (F + r)) (G (F + 2 * r + 2))
          · have HE : Hid _ := HO.out.symm.trans (HP.out.trans (if_neg (by rw [← HG.out, ← HG.out, hm]; exact Bool.false_ne_true)))
            go_wp2
            go_quiet (first | (go_at_call 12; refine Calls.quiet_of_same (less _ _ _)))
            replace HA : Hid (Arr w0 g off N _ (wr.drewN nq)) := HA.out.draws nq
            replace hcw : ∀ t, t < N → (wr.drewN nq).cell? ⟨g, off + t, none⟩ = some (.int .u64 (G t)) := hcw
            replace hfw : ∀ t, t < N → (wr.drewN nq).frozen? ⟨g, off + t, none⟩ = false := hfw
            generalize wr.drewN nq = wr at HA hcw hfw ⊢
            clear nq
            go_wp2
            (try simp only [Exit.inBlock, Exit.then]); refine bodyPost_ret (v := .tuple #[]) (results_none rfl _ _ _) rfl ?_
            exact ⟨rfl, show Arr _ _ _ _ _ _ by rw [HE.out]; exact HA.out⟩
          · have HE : Hid _ := HO.out.symm.trans (HP.out.trans (if_pos (by rw [← HG.out, ← HG.out, hm])))
            go_wp2
            go_quiet (first | (go_at_call 12; refine Calls.quiet_of_same (less _ _ _)))
            replace HA : Hid (Arr w0 g off N _ (wr.drewN nq)) := HA.out.draws nq
            replace hcw : ∀ t, t < N → (wr.drewN nq).cell? ⟨g, off + t, none⟩ = some (.int .u64 (G t)) := hcw
            replace hfw : ∀ t, t < N → (wr.drewN nq).frozen? ⟨g, off + t, none⟩ = false := hfw
            generalize wr.drewN nq = wr at HA hcw hfw ⊢
            clear nq
            go_wp2
            go_region
            all_goals go_wp2
            go_roundg (hi - (2 * r + 2))
            case measure => omega
            case rel =>
              refine ⟨2 * r + 2, swp dk (F + r) (F + 2 * r + 2), by first | rfl | go_num, by omega, Nat.le_refl _, ?_, HE.out.symm⟩
              rw [HG.out, HG.out]
              exact (HA.out.drew.swap (F + r) (F + 2 * r + 2) (by omega) (by omega))
      · have hz : ¬ 2 * (r : Int) + 1 + 1 < (hi : Int) := by omega
        have hzd : decide (2 * (r : Int) + 1 + 1 < (hi : Int)) = false := decide_eq_false hz
        have HP : Hid _ := sift_one (lt := ult) (F := F) (d := dk) hlt (Or.inl hg)
        go_wp2
        go_quiet (first | (go_at_call 12; refine Calls.quiet_of_same (less _ _ _)))
        replace HA : Hid (Arr w0 g off N _ (wr.drewN nq)) := HA.out.draws nq
        replace hcw : ∀ t, t < N → (wr.drewN nq).cell? ⟨g, off + t, none⟩ = some (.int .u64 (G t)) := hcw
        replace hfw : ∀ t, t < N → (wr.drewN nq).frozen? ⟨g, off + t, none⟩ = false := hfw
        generalize wr.drewN nq = wr at HA hcw hfw ⊢
        clear nq
        cases hm : ult (G (F + r)) (G (F + 2 * r + 1))
        · have HE : Hid _ := HO.out.symm.trans (HP.out.trans (if_neg (by rw [← HG.out, ← HG.out, hm]; exact Bool.false_ne_true)))
          go_wp2
          go_quiet (first | (go_at_call 12; refine Calls.quiet_of_same (less _ _ _)))
          replace HA : Hid (Arr w0 g off N _ (wr.drewN nq)) := HA.out.draws nq
          replace hcw : ∀ t, t < N → (wr.drewN nq).cell? ⟨g, off + t, none⟩ = some (.int .u64 (G t)) := hcw
          replace hfw : ∀ t, t < N → (wr.drewN nq).frozen? ⟨g, off + t, none⟩ = false := hfw
          generalize wr.drewN nq = wr at HA hcw hfw ⊢
          clear nq
          go_wp2
          (try simp only [Exit.inBlock, Exit.then]); refine bodyPost_ret (v := .tuple #[]) (results_none rfl _ _ _) rfl ?_
          exact ⟨rfl, show Arr _ _ _ _ _ _ by rw [HE.out]; exact HA.out⟩
        · have HE : Hid _ := HO.out.symm.trans (HP.out.trans (if_pos (by rw [← HG.out, ← HG.out, hm])))
          go_wp2
          go_quiet (first | (go_at_call 12; refine Calls.quiet_of_same (less _ _ _)))
          replace HA : Hid (Arr w0 g off N _ (wr.drewN nq)) := HA.out.draws nq
          replace hcw : ∀ t, t < N → (wr.drewN nq).cell? ⟨g, off + t, none⟩ = some (.int .u64 (G t)) := hcw
          replace hfw : ∀ t, t < N → (wr.drewN nq).frozen? ⟨g, off + t, none⟩ = false := hfw
          generalize wr.drewN nq = wr at HA hcw hfw ⊢
          clear nq
          go_wp2
          go_region
          all_goals go_wp2
          go_roundg (hi - (2 * r + 1))
          case measure => omega
          case rel =>
            refine ⟨2 * r + 1, swp dk (F + r) (F + 2 * r + 1), by first | rfl | go_num, by omega, Nat.le_refl _, ?_, HE.out.symm⟩
            rw [HG.out, HG.out]
            exact (HA.out.drew.swap (F + r) (F + 2 * r + 1) (by omega) (by omega))
end Go.Proofs.Qxb6627769a
