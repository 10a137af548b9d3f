/-
  The library's try at an insertion sort of a few steps.
-/
import Derived.Test.Qxb6627769aSortIns
import Derived.Sort.LotA
namespace Go.Proofs.Qxb6627769a
open Go.RowKit Go.Sort
set_option linter.unusedVariables false

section
variable {α : Type} [Inhabited α] {lt : α → α → Bool}
theorem ss_go {b i : Nat} {d : Array α} (h : i + 1 < b) (hl : lt d[i + 1]! d[i]! = false) : scanSorted lt d b (i + 1) = scanSorted lt d b (i + 2) := by
  rw [scanSorted, if_pos (by simp [h, hl])]
theorem ss_far {b i : Nat} {d : Array α} (h : ¬ i < b) : scanSorted lt d b i = i := by
  rw [scanSorted, if_neg (by simp [h])]
theorem ss_no {b i : Nat} {d : Array α} (hl : lt d[i + 1]! d[i]! = true) : scanSorted lt d b (i + 1) = i + 1 := by
  rw [scanSorted, if_neg (by simp [hl])]
theorem sd_go {j : Nat} {d : Array α} (hl : lt d[j + 1]! d[j]! = true) : shiftDown lt (j + 1) d = shiftDown lt j (swp d (j + 1) j) := by
  rw [shiftDown, if_neg (by simp [hl])]
theorem sd_no {j : Nat} {d : Array α} (hl : lt d[j + 1]! d[j]! = false) : shiftDown lt (j + 1) d = d := by
  rw [shiftDown, if_pos (by simp [hl])]
theorem su_go {b j : Nat} {d : Array α} (h : j + 1 < b) (hl : lt d[j + 1]! d[j]! = true) : shiftUp lt b (j + 1) d = shiftUp lt b (j + 2) (swp d (j + 1) j) := by
  rw [shiftUp, if_pos h, if_neg (by simp [hl])]; rfl
theorem su_no {b j : Nat} {d : Array α} (hl : lt d[j + 1]! d[j]! = false) : shiftUp lt b (j + 1) d = d := by
  rw [shiftUp]; simp [hl]
theorem su_far {b j : Nat} {d : Array α} (h : ¬ j < b) : shiftUp lt b j d = d := by rw [shiftUp, if_neg h]
end

set_option maxHeartbeats 16000000 in
set_option maxRecDepth 100000 in
theorem partIns (w0 : World) (g off N cap a b : Nat) (d : Array Int) (w : World) (hA : Arr w0 g off N d w) (hab : a < b) (hb : b ≤ N) (hN : N < 4611686018427387904) :
    Calls Try.prog 22 #[.slice (some ⟨g, off, none⟩) N cap, .int .i64 a, .int .i64 b] w fun e w' => e = .returned (.bool (partialInsertionSort ult d a b).2) ∧ Hid (Arr w0 g off N (partialInsertionSort ult d a b).1 w') := by
  have HA : Hid (Arr w0 g off N d w) := hA
  clear hA
  have hst := storeE
  generalize hR : partialInsertionSort ult d a b = R
  have HR : Hid (partialIns ult a b 5 (a + 1) d = R) := hR
  clear hR
  go_enter Try.func22, Try.ntmps22
  go_wp2
  go_loopg [7, 8] 6 (fun k vi vq wr => ∃ (i q s : Nat) (dk : Array Int), vi = .int .i64 ((i : Int) + 1) ∧ vq = .int .i64 q ∧ q + s = 5 ∧ a ≤ i ∧ i + 1 ≤ b ∧ s ≤ k ∧ Hid (Arr w0 g off N dk wr) ∧ Hid (partialIns ult a b s (i + 1) dk = R))
  case atStart => exact ⟨a, 0, 5, d, by go_num, by go_num, by omega, by omega, by omega, by omega, HA, HR⟩
  case round =>
    clear HA HR
    obtain ⟨i, q, s, dk, rfl, rfl, hqs, hai, hib, hk, HA, HO⟩ := hrel
    cases s with
    | zero =>
      have HP : Hid (R = (dk, false)) := by show _ = _; rw [← HO.out]; rfl
      obtain rfl : q = 5 := by omega
      clear hqs
      go_wp2
      go_ret
      exact ⟨by rw [HP.out]; rfl, by rw [HP.out]; exact HA⟩
    | succ s =>
      have hq5 : (q : Int) < 5 := by omega
      obtain ⟨G, hG⟩ : ∃ G : Nat → Int, ∀ t, G t = dk[t]! := ⟨fun t => dk[t]!, fun _ => rfl⟩
      have HG : Hid (∀ t, G t = dk[t]!) := hG
      clear hG
      go_upto_if 14 with fail
      go_step
      go_step
      go_step
      go_step
      go_step
      go_step
      go_step
      go_cut [7] from 13 to 132 (fun s7 wc => ∃ i3 : Nat, s7 = .int .i64 ((i3 : Int) + 1) ∧ i ≤ i3 ∧ i3 + 1 ≤ b ∧ Hid (i3 + 1 = scanSorted ult dk b (i + 1)) ∧ Hid (Arr w0 g off N dk wc))
      case first =>
        go_step
        go_loopg [7] (b + 1) (fun k vi wr => ∃ i' : Nat, vi = .int .i64 ((i' : Int) + 1) ∧ i ≤ i' ∧ i' + 1 ≤ b ∧ b - i' ≤ k ∧ Hid (Arr w0 g off N dk wr) ∧ Hid (scanSorted ult dk b (i' + 1) = scanSorted ult dk b (i + 1)))
        case atStart => exact ⟨i, rfl, by omega, by omega, by omega, HA, rfl⟩
        case round =>
          clear HA
          obtain ⟨i', rfl, h1, h2, h3, HA, HI⟩ := hrel
          by_cases hlt : i' + 1 < b
          · skip
            have hcw : ∀ t, t < N → wr.cell? ⟨g, off + t, none⟩ = some (.int .u64 (G t)) := fun t ht => by rw [HG.out]; exact HA.out.cell t ht
            have hfw : ∀ t, t < N → wr.frozen? ⟨g, off + t, none⟩ = false := fun t ht => HA.out.frozen t ht
            have hz : (i' : Int) + 1 < (b : Int) := by omega
            have hzd : decide ((i' : Int) + 1 < (b : Int)) = true := decide_eq_true hz
            cases hl : ult (G (i' + 1)) (G i')
            · go_wp2_with fail
              go_quiet (first | (go_at_call 12; refine Calls.quiet_of_same (less _ _ _)))
              replace HA : Hid (Arr w0 g off N _ (wr.drewN nq)) := HA.out.draws nq
              replace hcw : ∀ t, t < N → (wr.drewN nq).cell? ⟨g, off + t, none⟩ = some (.int .u64 (G t)) := hcw
              replace hfw : ∀ t, t < N → (wr.drewN nq).frozen? ⟨g, off + t, none⟩ = false := hfw
              generalize wr.drewN nq = wr at HA hcw hfw ⊢
              clear nq
              go_wp2_with fail
              go_roundg (b - (i' + 1))
              case measure => omega
              case rel => exact ⟨i' + 1, by go_num, by omega, by omega, by omega, HA, show _ = _ by rw [← HI.out, ss_go hlt (by rw [← HG.out, ← HG.out, hl])]⟩
            · have HE : Hid (i' + 1 = scanSorted ult dk b (i + 1)) := by show _ = _; rw [← HI.out, ss_no (by rw [← HG.out, ← HG.out, hl])]
              go_wp2_with fail
              go_quiet (first | (go_at_call 12; refine Calls.quiet_of_same (less _ _ _)))
              replace HA : Hid (Arr w0 g off N _ (wr.drewN nq)) := HA.out.draws nq
              replace hcw : ∀ t, t < N → (wr.drewN nq).cell? ⟨g, off + t, none⟩ = some (.int .u64 (G t)) := hcw
              replace hfw : ∀ t, t < N → (wr.drewN nq).frozen? ⟨g, off + t, none⟩ = false := hfw
              generalize wr.drewN nq = wr at HA hcw hfw ⊢
              clear nq
              go_wp2_with fail
              go_meet
              case rel => exact ⟨i', rfl, h1, h2, HE, HA⟩
          · skip
            have hcw : ∀ t, t < N → wr.cell? ⟨g, off + t, none⟩ = some (.int .u64 (G t)) := fun t ht => by rw [HG.out]; exact HA.out.cell t ht
            have hfw : ∀ t, t < N → wr.frozen? ⟨g, off + t, none⟩ = false := fun t ht => HA.out.frozen t ht
            have hz : ¬ (i' : Int) + 1 < (b : Int) := by omega
            have hzd : decide ((i' : Int) + 1 < (b : Int)) = false := decide_eq_false hz
            have HE : Hid (i' + 1 = scanSorted ult dk b (i + 1)) := by show _ = _; rw [← HI.out, ss_far hlt]
            go_wp2_with fail
            go_quiet (first | (go_at_call 12; refine Calls.quiet_of_same (less _ _ _)))
            replace HA : Hid (Arr w0 g off N _ (wr.drewN nq)) := HA.out.draws nq
            replace hcw : ∀ t, t < N → (wr.drewN nq).cell? ⟨g, off + t, none⟩ = some (.int .u64 (G t)) := hcw
            replace hfw : ∀ t, t < N → (wr.drewN nq).frozen? ⟨g, off + t, none⟩ = false := hfw
            generalize wr.drewN nq = wr at HA hcw hfw ⊢
            clear nq
            go_wp2_with fail
            go_meet
            case rel => exact ⟨i', rfl, h1, h2, HE, HA⟩
      case rest =>
        obtain ⟨i3, rfl, hii, hib3, HS, HA3⟩ := hcut
        clear HA
        have HA : Hid (Arr w0 g off N dk wc) := HA3
        clear HA3
        generalize wc = wr at HA ⊢
        have hP := partialIns_succ (lt := ult) a b s (i + 1) dk
        rw [← HS.out] at hP
        by_cases he : i3 + 1 = b
        · have HP : Hid (R = (dk, true)) := by show _ = _; rw [← HO.out, hP, if_pos he]
          clear hP
          have hez : (i3 : Int) + 1 = (b : Int) := by omega
          have hezd : ((i3 : Int) + 1 == (b : Int)) = true := by rw [hez]; exact beq_self_eq_true _
          clear he hez
          go_wp2
          go_ret
          exact ⟨by rw [HP.out]; rfl, by rw [HP.out]; exact HA⟩
        · rw [if_neg he] at hP
          have hez : ¬ ((i3 : Int) + 1 = (b : Int)) := by omega
          have hezd : ((i3 : Int) + 1 == (b : Int)) = false := beq_false_of_ne hez
          by_cases h50 : b - a < 50
          · have HP : Hid (R = (dk, false)) := by show _ = _; rw [← HO.out, hP, if_pos h50]
            clear hP
            have h50z : (b : Int) - (a : Int) < 50 := by omega
            go_wp2
            go_ret
            exact ⟨by rw [HP.out]; rfl, by rw [HP.out]; exact HA⟩
          · rw [if_neg h50] at hP
            have h50z : ¬ (b : Int) - (a : Int) < 50 := by omega
            have hcw : ∀ t, t < N → wr.cell? ⟨g, off + t, none⟩ = some (.int .u64 (G t)) := fun t ht => by rw [HG.out]; exact HA.out.cell t ht
            have hfw : ∀ t, t < N → wr.frozen? ⟨g, off + t, none⟩ = false := fun t ht => HA.out.frozen t ht
            go_upto_region 12 with go_region
            have HA2 : Hid (Arr w0 g off N (swp dk (i3 + 1) i3) ((wr.setCell ⟨g, off + (i3 + 1), none⟩ (.int .u64 (G i3))).setCell ⟨g, off + i3, none⟩ (.int .u64 (G (i3 + 1)))).drew) := by
              show Arr _ _ _ _ _ _
              rw [HG.out, HG.out]
              exact (HA.out.swap (i3 + 1) i3 (by omega) (by omega)).drew
            clear HA hcw hfw
            rw [Nat.add_sub_cancel] at hP
            obtain ⟨d1, hd1⟩ : ∃ d1, d1 = swp dk (i3 + 1) i3 := ⟨_, rfl⟩
            rw [← hd1] at HA2 hP
            generalize ((wr.setCell ⟨g, off + (i3 + 1), none⟩ (.int .u64 (G i3))).setCell ⟨g, off + i3, none⟩ (.int .u64 (G (i3 + 1)))).drew = wr at HA2 ⊢
            obtain ⟨d2, hd2⟩ : ∃ d2, d2 = fixDown ult a (i3 + 1) d1 := ⟨_, rfl⟩
            obtain ⟨d3, hd3⟩ : ∃ d3, d3 = fixUp ult b (i3 + 1) d2 := ⟨_, rfl⟩
            rw [← hd2, ← hd3] at hP
            have HP : Hid (partialIns ult a b s (i3 + 1) d3 = R) := by show _ = _; rw [← HO.out, hP]
            have HD2 : Hid (d2 = if i3 + 1 - a ≥ 2 then shiftDown ult i3 d1 else d1) := hd2
            have HD3 : Hid (d3 = if b - (i3 + 1) ≥ 2 then shiftUp ult b (i3 + 2) d2 else d2) := hd3
            have hai3 : a ≤ i3 := by omega
            clear hP hd1 hd2 hd3 HO HS HG hez hezd h50z hii hai hib
            go_upto_if 61 with fail
            go_cut [] from 13 to 132 (fun wc => Hid (Arr w0 g off N d2 wc))
            case first =>
              by_cases h2 : i3 + 1 - a ≥ 2
              · have h2z : (2 : Int) ≤ (i3 : Int) + 1 - (a : Int) := by omega
                have HD : Hid (d2 = shiftDown ult i3 d1) := by show _ = _; rw [HD2.out, if_pos h2]
                go_wp2
                go_loopg [9] (b + 1) (fun k vj wr => ∃ (j : Nat) (dj : Array Int), vj = .int .i64 j ∧ j ≤ i3 ∧ j ≤ k ∧ Hid (Arr w0 g off N dj wr) ∧ Hid (d2 = shiftDown ult j dj))
                case atStart => exact ⟨i3, d1, by first | rfl | go_num, Nat.le_refl _, by omega, HA2, HD⟩
                case round =>
                  clear HA2 HD HD2 HD3 HP
                  obtain ⟨j, dj, rfl, hj, hk2, HA, HI⟩ := hrel
                  cases j with
                  | zero =>
                    have HE : Hid (d2 = dj) := HI
                    go_wp2_with fail
                    go_meet
                    case rel => rw [HE.out]; exact HA
                  | succ j =>
                    obtain ⟨G, hG⟩ : ∃ G : Nat → Int, ∀ t, G t = dj[t]! := ⟨fun t => dj[t]!, fun _ => rfl⟩
                    have HG : Hid (∀ t, G t = dj[t]!) := hG
                    clear hG
                    have hcw : ∀ t, t < N → wr.cell? ⟨g, off + t, none⟩ = some (.int .u64 (G t)) := fun t ht => by rw [HG.out]; exact HA.out.cell t ht
                    have hfw : ∀ t, t < N → wr.frozen? ⟨g, off + t, none⟩ = false := fun t ht => HA.out.frozen t ht
                    have hj1 : (1 : Int) ≤ (j : Int) + 1 := by omega
                    cases hl : ult (G (j + 1)) (G j)
                    · have HE : Hid (d2 = dj) := by show _ = _; rw [HI.out, sd_no (by rw [← HG.out, ← HG.out, hl])]
                      go_wp2_with fail
                      go_quiet (first | (go_at_call 12; refine Calls.quiet_of_same (less _ _ _)))
                      replace HA : Hid (Arr w0 g off N _ (wr.drewN nq)) := HA.out.draws nq
                      replace hcw : ∀ t, t < N → (wr.drewN nq).cell? ⟨g, off + t, none⟩ = some (.int .u64 (G t)) := hcw
                      replace hfw : ∀ t, t < N → (wr.drewN nq).frozen? ⟨g, off + t, none⟩ = false := hfw
                      generalize wr.drewN nq = wr at HA hcw hfw ⊢
                      clear nq
                      go_wp2_with fail
                      go_meet
                      case rel => rw [HE.out]; exact HA
                    · go_wp2_with fail
                      go_quiet (first | (go_at_call 12; refine Calls.quiet_of_same (less _ _ _)))
                      replace HA : Hid (Arr w0 g off N _ (wr.drewN nq)) := HA.out.draws nq
                      replace hcw : ∀ t, t < N → (wr.drewN nq).cell? ⟨g, off + t, none⟩ = some (.int .u64 (G t)) := hcw
                      replace hfw : ∀ t, t < N → (wr.drewN nq).frozen? ⟨g, off + t, none⟩ = false := hfw
                      generalize wr.drewN nq = wr at HA hcw hfw ⊢
                      clear nq
                      go_wp2_with fail
                      go_region
                      all_goals go_wp2_with fail
                      go_roundg j
                      case measure => omega
                      case rel =>
                        refine ⟨j, swp dj (j + 1) j, by first | rfl | go_num, by omega, by omega, ?_, ?_⟩
                        · rw [HG.out, HG.out]
                          exact (HA.out.swap (j + 1) j (by omega) (by omega)).drew
                        · show _ = _
                          rw [HI.out, sd_go (by rw [← HG.out, ← HG.out, hl])]
              · have h2z : ¬ (2 : Int) ≤ (i3 : Int) + 1 - (a : Int) := by omega
                have HD : Hid (d2 = d1) := by show _ = _; rw [HD2.out, if_neg h2]
                go_wp2_with fail
                go_meet
                case rel => rw [HD.out]; exact HA2
            case rest =>
              have HA : Hid (Arr w0 g off N d2 wc) := hcut
              clear hcut HA2 HD2
              generalize wc = wr at HA ⊢
              go_upto_if 98 with fail
              by_cases h2 : b - (i3 + 1) ≥ 2
              · have h2z : (2 : Int) ≤ (b : Int) - ((i3 : Int) + 1) := by omega
                have HD : Hid (d3 = shiftUp ult b (i3 + 2) d2) := by show _ = _; rw [HD3.out, if_pos h2]
                go_wp2
                go_loopg [10] (b + 1) (fun k vj wr => ∃ (j : Nat) (dj : Array Int), vj = .int .i64 ((j : Int) + 1) ∧ j + 1 ≤ b ∧ b - j ≤ k ∧ Hid (Arr w0 g off N dj wr) ∧ Hid (d3 = shiftUp ult b (j + 1) dj))
                case atStart => exact ⟨i3 + 1, d2, by go_num, by omega, by omega, HA, HD⟩
                case round =>
                  clear HA HD HD3
                  obtain ⟨j, dj, rfl, hj, hk2, HA, HI⟩ := hrel
                  by_cases hjb : j + 1 < b
                  · have hjz : (j : Int) + 1 < (b : Int) := by omega
                    obtain ⟨G, hG⟩ : ∃ G : Nat → Int, ∀ t, G t = dj[t]! := ⟨fun t => dj[t]!, fun _ => rfl⟩
                    have HG : Hid (∀ t, G t = dj[t]!) := hG
                    clear hG
                    have hcw : ∀ t, t < N → wr.cell? ⟨g, off + t, none⟩ = some (.int .u64 (G t)) := fun t ht => by rw [HG.out]; exact HA.out.cell t ht
                    have hfw : ∀ t, t < N → wr.frozen? ⟨g, off + t, none⟩ = false := fun t ht => HA.out.frozen t ht
                    cases hl : ult (G (j + 1)) (G j)
                    · have HE : Hid (d3 = dj) := by show _ = _; rw [HI.out, su_no (by rw [← HG.out, ← HG.out, hl])]
                      go_wp2_with fail
                      go_quiet (first | (go_at_call 12; refine Calls.quiet_of_same (less _ _ _)))
                      replace HA : Hid (Arr w0 g off N _ (wr.drewN nq)) := HA.out.draws nq
                      replace hcw : ∀ t, t < N → (wr.drewN nq).cell? ⟨g, off + t, none⟩ = some (.int .u64 (G t)) := hcw
                      replace hfw : ∀ t, t < N → (wr.drewN nq).frozen? ⟨g, off + t, none⟩ = false := hfw
                      generalize wr.drewN nq = wr at HA hcw hfw ⊢
                      clear nq
                      go_wp2_with fail
                      go_roundg s
                      case measure => omega
                      case rel => exact ⟨i3, q + 1, s, d3, by first | rfl | go_num, by go_num, by omega, by omega, by omega, Nat.le_refl _, by show Arr _ _ _ _ _ _; rw [HE.out]; exact HA.out, HP⟩
                    · go_wp2_with fail
                      go_quiet (first | (go_at_call 12; refine Calls.quiet_of_same (less _ _ _)))
                      replace HA : Hid (Arr w0 g off N _ (wr.drewN nq)) := HA.out.draws nq
                      replace hcw : ∀ t, t < N → (wr.drewN nq).cell? ⟨g, off + t, none⟩ = some (.int .u64 (G t)) := hcw
                      replace hfw : ∀ t, t < N → (wr.drewN nq).frozen? ⟨g, off + t, none⟩ = false := hfw
                      generalize wr.drewN nq = wr at HA hcw hfw ⊢
                      clear nq
                      go_wp2_with fail
                      go_region
                      all_goals go_wp2_with fail
                      go_roundg (b - (j + 1))
                      case measure => omega
                      case rel =>
                        refine ⟨j + 1, swp dj (j + 1) j, by go_num, by omega, by omega, ?_, ?_⟩
                        · rw [HG.out, HG.out]
                          exact (HA.out.swap (j + 1) j (by omega) (by omega)).drew
                        · show _ = _
                          rw [HI.out, su_go hjb (by rw [← HG.out, ← HG.out, hl])]
                  · have hjz : ¬ (j : Int) + 1 < (b : Int) := by omega
                    have HE : Hid (d3 = dj) := by show _ = _; rw [HI.out, su_far hjb]
                    go_wp2_with fail
                    go_roundg s
                    case measure => omega
                    case rel => exact ⟨i3, q + 1, s, d3, by first | rfl | go_num, by go_num, by omega, by omega, by omega, Nat.le_refl _, by show Arr _ _ _ _ _ _; rw [HE.out]; exact HA.out, HP⟩
              · have h2z : ¬ (2 : Int) ≤ (b : Int) - ((i3 : Int) + 1) := by omega
                have HD : Hid (d3 = d2) := by show _ = _; rw [HD3.out, if_neg h2]
                go_wp2_with fail
                go_roundg s
                case measure => omega
                case rel => exact ⟨i3, q + 1, s, d3, by first | rfl | go_num, by go_num, by omega, by omega, by omega, Nat.le_refl _, by show Arr _ _ _ _ _ _; rw [HD.out]; exact HA.out, HP⟩
end Go.Proofs.Qxb6627769a
