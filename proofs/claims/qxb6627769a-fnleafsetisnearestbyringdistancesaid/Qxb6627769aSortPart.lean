/-
  The library's partition.
-/
import Derived.Test.Qxb6627769aSortPeq
namespace Go.Proofs.Qxb6627769a
open Go.RowKit Go.Sort
set_option linter.unusedVariables false

set_option maxHeartbeats 16000000 in
set_option maxRecDepth 100000 in
theorem part (w0 : World) (g off N cap a b pv : Nat) (d : Array Int) (w : World) (hA : Arr w0 g off N d w) (hap : a ≤ pv) (hpb : pv < b) (hb : b ≤ N) (hN : N < 4611686018427387904) :
    Calls Try.prog 24 #[.slice (some ⟨g, off, none⟩) N cap, .int .i64 a, .int .i64 b, .int .i64 pv] w fun e w' => e = .returned (.tuple #[.int .i64 ((partition ult d a b pv).1 : Nat), .bool (partition ult d a b pv).2.1]) ∧ Hid (Arr w0 g off N (partition ult d a b pv).2.2 w') := by
  have HA : Hid (Arr w0 g off N d w) := hA
  clear hA
  have hst := storeE
  obtain ⟨G, hG⟩ : ∃ G : Nat → Int, ∀ t, G t = d[t]! := ⟨fun t => d[t]!, fun _ => rfl⟩
  have hcw : ∀ t, t < N → w.cell? ⟨g, off + t, none⟩ = some (.int .u64 (G t)) := fun t ht => by rw [hG]; exact HA.out.cell t ht
  have hfw : ∀ t, t < N → w.frozen? ⟨g, off + t, none⟩ = false := fun t ht => HA.out.frozen t ht
  have HG : Hid (∀ t, G t = d[t]!) := hG
  clear hG
  obtain ⟨u2, hu2⟩ := HA.out.cell2 a pv (by omega) (by omega) (.int .u64 (G pv))
  obtain ⟨i, hi⟩ : ∃ i, i = a + 1 := ⟨_, rfl⟩
  obtain ⟨j, hj⟩ : ∃ j, j = b - 1 := ⟨_, rfl⟩
  obtain ⟨dk, hdk⟩ : ∃ dk, dk = swp d a pv := ⟨_, rfl⟩
  generalize hR : partition ult d a b pv = R
  have HR : Hid ((if scanUp (fun x => ult x dk[a]!) dk j i > scanDown (fun x => !ult x dk[a]!) dk (scanUp (fun x => ult x dk[a]!) dk j i) j then (scanDown (fun x => !ult x dk[a]!) dk (scanUp (fun x => ult x dk[a]!) dk j i) j, true, swp dk (scanDown (fun x => !ult x dk[a]!) dk (scanUp (fun x => ult x dk[a]!) dk j i) j) a) else
    ((partLoop ult a (scanUp (fun x => ult x dk[a]!) dk j i + 1) (scanDown (fun x => !ult x dk[a]!) dk (scanUp (fun x => ult x dk[a]!) dk j i) j - 1) (swp dk (scanUp (fun x => ult x dk[a]!) dk j i) (scanDown (fun x => !ult x dk[a]!) dk (scanUp (fun x => ult x dk[a]!) dk j i) j))).1, false,
      swp (partLoop ult a (scanUp (fun x => ult x dk[a]!) dk j i + 1) (scanDown (fun x => !ult x dk[a]!) dk (scanUp (fun x => ult x dk[a]!) dk j i) j - 1) (swp dk (scanUp (fun x => ult x dk[a]!) dk j i) (scanDown (fun x => !ult x dk[a]!) dk (scanUp (fun x => ult x dk[a]!) dk j i) j))).2
        (partLoop ult a (scanUp (fun x => ult x dk[a]!) dk j i + 1) (scanDown (fun x => !ult x dk[a]!) dk (scanUp (fun x => ult x dk[a]!) dk j i) j - 1) (swp dk (scanUp (fun x => ult x dk[a]!) dk j i) (scanDown (fun x => !ult x dk[a]!) dk (scanUp (fun x => ult x dk[a]!) dk j i) j))).1 a)) = R) := by
    show _ = _
    rw [← hR, hdk, hi, hj]
    rfl
  clear hR
  have hai : a < i := by omega
  have hij : i ≤ j + 1 := by omega
  have hjb : j < b := by omega
  have hiz : (a : Int) + 1 = (i : Int) := by omega
  have hjz : (b : Int) - 1 = (j : Int) := by omega
  clear hi hj
  go_enter Try.func24, Try.ntmps24
  go_upto_region 2 with go_region
  have HA2 : Hid (Arr w0 g off N dk ((w.setCell ⟨g, off + a, none⟩ (.int .u64 (G pv))).setCell ⟨g, off + pv, none⟩ (.int .u64 (G a))).drew) := by
    show Arr _ _ _ _ _ _
    rw [HG.out, HG.out, hdk]
    exact (HA.out.swap a pv (by omega) (by omega)).drew
  clear hcw hfw hu2 HA hdk
  generalize ((w.setCell ⟨g, off + a, none⟩ (.int .u64 (G pv))).setCell ⟨g, off + pv, none⟩ (.int .u64 (G a))).drew = wr at HA2 ⊢
  clear HG
  have HA : Hid (Arr w0 g off N dk wr) := HA2
  clear HA2
  go_cut [10, 11] from 30 (fun s10 s11 wc => s10 = .int .i64 i ∧ s11 = .int .i64 j ∧ Hid (Arr w0 g off N dk wc))
  case first =>
    go_wp2_with fail
    go_meet
    case rel => exact ⟨by first | rfl | rw [hiz], by first | rfl | rw [hjz], HA⟩
  case rest =>
    obtain ⟨rfl, rfl, HA2⟩ := hcut
    clear HA hiz hjz
    have HA : Hid (Arr w0 g off N dk wc) := HA2
    clear HA2
    generalize wc = wr at HA ⊢
    obtain ⟨G, hG⟩ : ∃ G : Nat → Int, ∀ t, G t = dk[t]! := ⟨fun t => dk[t]!, fun _ => rfl⟩
    have HG : Hid (∀ t, G t = dk[t]!) := hG
    clear hG
    obtain ⟨i2, hi2⟩ : ∃ i2, i2 = scanUp (fun x => ult x dk[a]!) dk j i := ⟨_, rfl⟩
    have HI2 : Hid (i2 = scanUp (fun x => ult x dk[a]!) dk j i) := hi2
    clear hi2
    go_step
    go_step
    go_cut [10] from 30 (fun s9 wc => s9 = .int .i64 i2 ∧ i ≤ i2 ∧ i2 ≤ j + 1 ∧ Hid (i2 ≤ j → ult (G i2) (G a) = false) ∧ Hid (Arr w0 g off N dk wc))
    case first =>
      go_step
      go_loopg [10] (b + 1) (fun k vi wr => ∃ i' : Nat, vi = .int .i64 i' ∧ i ≤ i' ∧ i' ≤ j + 1 ∧ j + 1 - i' ≤ k ∧ Hid (Arr w0 g off N dk wr) ∧ Hid (i2 = scanUp (fun x => ult x dk[a]!) dk j i'))
      case atStart => exact ⟨i, rfl, by omega, by omega, by omega, HA, HI2⟩
      case round =>
        clear HA HI2
        obtain ⟨i', rfl, h1, h2, h3, HA, HI⟩ := hrel
        by_cases hlt : i' ≤ j
        · skip
          have hcw : ∀ t, t < N → wr.cell? ⟨g, off + t, none⟩ = some (.int .u64 (G t)) := fun t ht => by rw [HG.out]; exact HA.out.cell t ht
          have hfw : ∀ t, t < N → wr.frozen? ⟨g, off + t, none⟩ = false := fun t ht => HA.out.frozen t ht
          have hz : (i' : Int) ≤ (j : Int) := by omega
          have hzd : decide ((i' : Int) ≤ (j : Int)) = true := decide_eq_true hz
          cases hl : ult (G i') (G a)
          · have HE : Hid (i2 = i') := by show _ = _; rw [HI.out, up_no (by rw [← HG.out, ← HG.out, hl])]
            go_wp2_with fail
            go_quiet (first | (go_at_call 12; refine Calls.quiet_of_same (less _ _ _)))
            replace HA : Hid (Arr w0 g off N _ (wr.drewN nq)) := HA.out.draws nq
            replace hcw : ∀ t, t < N → (wr.drewN nq).cell? ⟨g, off + t, none⟩ = some (.int .u64 (G t)) := hcw
            replace hfw : ∀ t, t < N → (wr.drewN nq).frozen? ⟨g, off + t, none⟩ = false := hfw
            generalize wr.drewN nq = wr at HA hcw hfw ⊢
            clear nq
            go_wp2_with fail
            go_meet
            case rel => exact ⟨by rw [HE.out], by rw [HE.out]; exact h1, by rw [HE.out]; exact h2, fun _ => by rw [HE.out]; exact hl, HA⟩
          · go_wp2_with fail
            go_quiet (first | (go_at_call 12; refine Calls.quiet_of_same (less _ _ _)))
            replace HA : Hid (Arr w0 g off N _ (wr.drewN nq)) := HA.out.draws nq
            replace hcw : ∀ t, t < N → (wr.drewN nq).cell? ⟨g, off + t, none⟩ = some (.int .u64 (G t)) := hcw
            replace hfw : ∀ t, t < N → (wr.drewN nq).frozen? ⟨g, off + t, none⟩ = false := hfw
            generalize wr.drewN nq = wr at HA hcw hfw ⊢
            clear nq
            go_wp2_with fail
            go_roundg (j - i')
            case measure => omega
            case rel => exact ⟨i' + 1, by go_num, by omega, by omega, by omega, HA, show _ = _ by rw [HI.out, up_go hlt (by rw [← HG.out, ← HG.out, hl])]⟩
        · skip
          have hcw : ∀ t, t < N → wr.cell? ⟨g, off + t, none⟩ = some (.int .u64 (G t)) := fun t ht => by rw [HG.out]; exact HA.out.cell t ht
          have hfw : ∀ t, t < N → wr.frozen? ⟨g, off + t, none⟩ = false := fun t ht => HA.out.frozen t ht
          have hz : ¬ (i' : Int) ≤ (j : Int) := by omega
          have hzd : decide ((i' : Int) ≤ (j : Int)) = false := decide_eq_false hz
          have HE : Hid (i2 = i') := by show _ = _; rw [HI.out, up_far hlt]
          go_wp2_with fail
          go_quiet (first | (go_at_call 12; refine Calls.quiet_of_same (less _ _ _)))
          replace HA : Hid (Arr w0 g off N _ (wr.drewN nq)) := HA.out.draws nq
          replace hcw : ∀ t, t < N → (wr.drewN nq).cell? ⟨g, off + t, none⟩ = some (.int .u64 (G t)) := hcw
          replace hfw : ∀ t, t < N → (wr.drewN nq).frozen? ⟨g, off + t, none⟩ = false := hfw
          generalize wr.drewN nq = wr at HA hcw hfw ⊢
          clear nq
          go_wp2_with fail
          go_meet
          case rel => exact ⟨by rw [HE.out], by rw [HE.out]; exact h1, by rw [HE.out]; exact h2, fun h => by rw [HE.out] at h; exact absurd h hlt, HA⟩
    case rest =>
      obtain ⟨rfl, hii, hij2, HU, HA3⟩ := hcut
      clear HA
      obtain ⟨j2, hj2⟩ : ∃ j2, j2 = scanDown (fun x => !ult x dk[a]!) dk i2 j := ⟨_, rfl⟩
      have HJ2 : Hid (j2 = scanDown (fun x => !ult x dk[a]!) dk i2 j) := hj2
      clear hj2
      go_step
      go_step
      go_cut [11] from 30 (fun s10 wc => s10 = .int .i64 j2 ∧ j2 ≤ j ∧ i2 ≤ j2 + 1 ∧ Hid (i2 ≤ j2 → ult (G j2) (G a) = true) ∧ Hid (Arr w0 g off N dk wc))
      case first =>
        go_step
        go_loopg [11] (b + 1) (fun k vj wr => ∃ j' : Nat, vj = .int .i64 j' ∧ j' ≤ j ∧ i2 ≤ j' + 1 ∧ j' ≤ k ∧ Hid (Arr w0 g off N dk wr) ∧ Hid (j2 = scanDown (fun x => !ult x dk[a]!) dk i2 j'))
        case atStart => exact ⟨j, rfl, by omega, by omega, by omega, HA3, HJ2⟩
        case round =>
          clear HA3 HJ2
          obtain ⟨j', rfl, h1, h2, h3, HA, HI⟩ := hrel
          by_cases hlt : i2 ≤ j'
          · obtain ⟨jp, rfl⟩ : ∃ q, j' = q + 1 := ⟨j' - 1, by omega⟩
            have hcw : ∀ t, t < N → wr.cell? ⟨g, off + t, none⟩ = some (.int .u64 (G t)) := fun t ht => by rw [HG.out]; exact HA.out.cell t ht
            have hfw : ∀ t, t < N → wr.frozen? ⟨g, off + t, none⟩ = false := fun t ht => HA.out.frozen t ht
            have hz : (i2 : Int) ≤ (jp : Int) + 1 := by omega
            have hzd : decide ((i2 : Int) ≤ (jp : Int) + 1) = true := decide_eq_true hz
            cases hl : ult (G (jp + 1)) (G a)
            · go_wp2_with fail
              go_quiet (first | (go_at_call 12; refine Calls.quiet_of_same (less _ _ _)))
              replace HA : Hid (Arr w0 g off N _ (wr.drewN nq)) := HA.out.draws nq
              replace hcw : ∀ t, t < N → (wr.drewN nq).cell? ⟨g, off + t, none⟩ = some (.int .u64 (G t)) := hcw
              replace hfw : ∀ t, t < N → (wr.drewN nq).frozen? ⟨g, off + t, none⟩ = false := hfw
              generalize wr.drewN nq = wr at HA hcw hfw ⊢
              clear nq
              go_wp2_with fail
              go_roundg jp
              case measure => omega
              case rel => exact ⟨jp, by first | rfl | go_num, by omega, by omega, by omega, HA, show _ = _ by rw [HI.out, down_go hlt (by rw [← HG.out, ← HG.out, hl]; rfl)]⟩
            · have HE : Hid (j2 = jp + 1) := by show _ = _; rw [HI.out, down_no (by rw [← HG.out, ← HG.out, hl]; rfl)]
              go_wp2_with fail
              go_quiet (first | (go_at_call 12; refine Calls.quiet_of_same (less _ _ _)))
              replace HA : Hid (Arr w0 g off N _ (wr.drewN nq)) := HA.out.draws nq
              replace hcw : ∀ t, t < N → (wr.drewN nq).cell? ⟨g, off + t, none⟩ = some (.int .u64 (G t)) := hcw
              replace hfw : ∀ t, t < N → (wr.drewN nq).frozen? ⟨g, off + t, none⟩ = false := hfw
              generalize wr.drewN nq = wr at HA hcw hfw ⊢
              clear nq
              go_wp2_with fail
              go_meet
              case rel => exact ⟨by rw [HE.out] <;> first | rfl | go_num, by rw [HE.out]; exact h1, by rw [HE.out]; exact h2, fun _ => by rw [HE.out]; exact hl, HA⟩
          · skip
            have hcw : ∀ t, t < N → wr.cell? ⟨g, off + t, none⟩ = some (.int .u64 (G t)) := fun t ht => by rw [HG.out]; exact HA.out.cell t ht
            have hfw : ∀ t, t < N → wr.frozen? ⟨g, off + t, none⟩ = false := fun t ht => HA.out.frozen t ht
            have hz : ¬ (i2 : Int) ≤ (j' : Int) := by omega
            have hzd : decide ((i2 : Int) ≤ (j' : Int)) = false := decide_eq_false hz
            have HE : Hid (j2 = j') := by show _ = _; rw [HI.out, down_far hlt]
            go_wp2_with fail
            go_quiet (first | (go_at_call 12; refine Calls.quiet_of_same (less _ _ _)))
            replace HA : Hid (Arr w0 g off N _ (wr.drewN nq)) := HA.out.draws nq
            replace hcw : ∀ t, t < N → (wr.drewN nq).cell? ⟨g, off + t, none⟩ = some (.int .u64 (G t)) := hcw
            replace hfw : ∀ t, t < N → (wr.drewN nq).frozen? ⟨g, off + t, none⟩ = false := hfw
            generalize wr.drewN nq = wr at HA hcw hfw ⊢
            clear nq
            go_wp2_with fail
            go_meet
            case rel => exact ⟨by rw [HE.out], by rw [HE.out]; exact h1, by rw [HE.out]; exact h2, fun h => by rw [HE.out] at h; exact absurd h hlt, HA⟩
      case rest =>
        obtain ⟨rfl, hjj, hij3, HD, HA⟩ := hcut
        clear HA3
        generalize wc = wr at HA ⊢
        by_cases hgt : i2 > j2
        · have HP : Hid (R = (j2, true, swp dk j2 a)) := by
            show _ = _
            rw [← HR.out, ← HI2.out, ← HJ2.out, if_pos hgt]
          have HS : Hid (Arr w0 g off N (swp dk j2 a) ((wr.setCell ⟨g, off + j2, none⟩ (.int .u64 (G a))).setCell ⟨g, off + a, none⟩ (.int .u64 (G j2))).drew) := by
            show Arr _ _ _ _ _ _
            rw [HG.out, HG.out]
            exact (HA.out.swap j2 a (by omega) (by omega)).drew
          have hcw : ∀ t, t < N → wr.cell? ⟨g, off + t, none⟩ = some (.int .u64 (G t)) := fun t ht => by rw [HG.out]; exact HA.out.cell t ht
          have hfw : ∀ t, t < N → wr.frozen? ⟨g, off + t, none⟩ = false := fun t ht => HA.out.frozen t ht
          obtain ⟨v2, hv2⟩ := HA.out.cell2 j2 a (by omega) (by omega) (.int .u64 (G a))
          go_wp2_with fail
          go_region
          all_goals go_wp2_with fail
          go_ret2
          exact ⟨by rw [HP.out]; rfl, by rw [HP.out]; exact HS⟩
        · have hne : i2 ≠ j2 := by
            intro e
            have h1 := HU.out (by omega)
            have h2 := HD.out (by omega)
            rw [e, h2] at h1
            cases h1
          have HP : Hid (((partLoop ult a (i2 + 1) (j2 - 1) (swp dk i2 j2)).1, false, swp (partLoop ult a (i2 + 1) (j2 - 1) (swp dk i2 j2)).2 (partLoop ult a (i2 + 1) (j2 - 1) (swp dk i2 j2)).1 a) = R) := by
            show _ = _
            rw [← HR.out, ← HI2.out, ← HJ2.out, if_neg hgt]
          have HS : Hid (Arr w0 g off N (swp dk i2 j2) ((wr.setCell ⟨g, off + i2, none⟩ (.int .u64 (G j2))).setCell ⟨g, off + j2, none⟩ (.int .u64 (G i2))).drew) := by
            show Arr _ _ _ _ _ _
            rw [HG.out, HG.out]
            exact (HA.out.swap i2 j2 (by omega) (by omega)).drew
          have hcw : ∀ t, t < N → wr.cell? ⟨g, off + t, none⟩ = some (.int .u64 (G t)) := fun t ht => by rw [HG.out]; exact HA.out.cell t ht
          have hfw : ∀ t, t < N → wr.frozen? ⟨g, off + t, none⟩ = false := fun t ht => HA.out.frozen t ht
          go_upto_region 11 with go_region
          clear hcw hfw HA HG HU HD HI2 HJ2 HR
          generalize ((wr.setCell ⟨g, off + i2, none⟩ (.int .u64 (G j2))).setCell ⟨g, off + j2, none⟩ (.int .u64 (G i2))).drew = wr at HS ⊢
          go_wp2
          go_loopg [10, 11] (b + 1) (fun k vi vj wr => ∃ (i j : Nat) (dk : Array Int), vi = .int .i64 i ∧ vj = .int .i64 j ∧ a < i ∧ i ≤ j + 1 ∧ j < b ∧ j ≤ k ∧ Hid (Arr w0 g off N dk wr) ∧ Hid (((partLoop ult a i j dk).1, false, swp (partLoop ult a i j dk).2 (partLoop ult a i j dk).1 a) = R))
          case atStart => exact ⟨i2 + 1, j2 - 1, _, by go_num, by first | go_num | (congr 1; omega), by omega, by omega, by omega, by omega, HS, HP⟩
          case round =>
            clear HS HP
            clear hne hgt hjj hij3 hii hij2 hai hij hjb

            obtain ⟨i, j, dk, rfl, rfl, hai, hij, hjb, hk, HA, HO⟩ := hrel
            obtain ⟨G, hG⟩ : ∃ G : Nat → Int, ∀ t, G t = dk[t]! := ⟨fun t => dk[t]!, fun _ => rfl⟩
            have HG : Hid (∀ t, G t = dk[t]!) := hG
            clear hG
            obtain ⟨i2, hi2⟩ : ∃ i2, i2 = scanUp (fun x => ult x dk[a]!) dk j i := ⟨_, rfl⟩
            have HI2 : Hid (i2 = scanUp (fun x => ult x dk[a]!) dk j i) := hi2
            clear hi2
            go_step
            go_step
            go_cut [10] from 99 to 152 (fun s9 wc => s9 = .int .i64 i2 ∧ i ≤ i2 ∧ i2 ≤ j + 1 ∧ Hid (i2 ≤ j → ult (G i2) (G a) = false) ∧ Hid (Arr w0 g off N dk wc))
            case first =>
              go_step
              go_loopg [10] (b + 1) (fun k vi wr => ∃ i' : Nat, vi = .int .i64 i' ∧ i ≤ i' ∧ i' ≤ j + 1 ∧ j + 1 - i' ≤ k ∧ Hid (Arr w0 g off N dk wr) ∧ Hid (i2 = scanUp (fun x => ult x dk[a]!) dk j i'))
              case atStart => exact ⟨i, rfl, by omega, by omega, by omega, HA, HI2⟩
              case round =>
                clear HA HI2
                obtain ⟨i', rfl, h1, h2, h3, HA, HI⟩ := hrel
                by_cases hlt : i' ≤ j
                · skip
                  have hcw : ∀ t, t < N → wr.cell? ⟨g, off + t, none⟩ = some (.int .u64 (G t)) := fun t ht => by rw [HG.out]; exact HA.out.cell t ht
                  have hfw : ∀ t, t < N → wr.frozen? ⟨g, off + t, none⟩ = false := fun t ht => HA.out.frozen t ht
                  have hz : (i' : Int) ≤ (j : Int) := by omega
                  have hzd : decide ((i' : Int) ≤ (j : Int)) = true := decide_eq_true hz
                  cases hl : ult (G i') (G a)
                  · have HE : Hid (i2 = i') := by show _ = _; rw [HI.out, up_no (by rw [← HG.out, ← HG.out, hl])]
                    go_wp2_with fail
                    go_quiet (first | (go_at_call 12; refine Calls.quiet_of_same (less _ _ _)))
                    replace HA : Hid (Arr w0 g off N _ (wr.drewN nq)) := HA.out.draws nq
                    replace hcw : ∀ t, t < N → (wr.drewN nq).cell? ⟨g, off + t, none⟩ = some (.int .u64 (G t)) := hcw
                    replace hfw : ∀ t, t < N → (wr.drewN nq).frozen? ⟨g, off + t, none⟩ = false := hfw
                    generalize wr.drewN nq = wr at HA hcw hfw ⊢
                    clear nq
                    go_wp2_with fail
                    go_meet
                    case rel => exact ⟨by rw [HE.out], by rw [HE.out]; exact h1, by rw [HE.out]; exact h2, fun _ => by rw [HE.out]; exact hl, HA⟩
                  · go_wp2_with fail
                    go_quiet (first | (go_at_call 12; refine Calls.quiet_of_same (less _ _ _)))
                    replace HA : Hid (Arr w0 g off N _ (wr.drewN nq)) := HA.out.draws nq
                    replace hcw : ∀ t, t < N → (wr.drewN nq).cell? ⟨g, off + t, none⟩ = some (.int .u64 (G t)) := hcw
                    replace hfw : ∀ t, t < N → (wr.drewN nq).frozen? ⟨g, off + t, none⟩ = false := hfw
                    generalize wr.drewN nq = wr at HA hcw hfw ⊢
                    clear nq
                    go_wp2_with fail
                    go_roundg (j - i')
                    case measure => omega
                    case rel => exact ⟨i' + 1, by go_num, by omega, by omega, by omega, HA, show _ = _ by rw [HI.out, up_go hlt (by rw [← HG.out, ← HG.out, hl])]⟩
                · skip
                  have hcw : ∀ t, t < N → wr.cell? ⟨g, off + t, none⟩ = some (.int .u64 (G t)) := fun t ht => by rw [HG.out]; exact HA.out.cell t ht
                  have hfw : ∀ t, t < N → wr.frozen? ⟨g, off + t, none⟩ = false := fun t ht => HA.out.frozen t ht
                  have hz : ¬ (i' : Int) ≤ (j : Int) := by omega
                  have hzd : decide ((i' : Int) ≤ (j : Int)) = false := decide_eq_false hz
                  have HE : Hid (i2 = i') := by show _ = _; rw [HI.out, up_far hlt]
                  go_wp2_with fail
                  go_quiet (first | (go_at_call 12; refine Calls.quiet_of_same (less _ _ _)))
                  replace HA : Hid (Arr w0 g off N _ (wr.drewN nq)) := HA.out.draws nq
                  replace hcw : ∀ t, t < N → (wr.drewN nq).cell? ⟨g, off + t, none⟩ = some (.int .u64 (G t)) := hcw
                  replace hfw : ∀ t, t < N → (wr.drewN nq).frozen? ⟨g, off + t, none⟩ = false := hfw
                  generalize wr.drewN nq = wr at HA hcw hfw ⊢
                  clear nq
                  go_wp2_with fail
                  go_meet
                  case rel => exact ⟨by rw [HE.out], by rw [HE.out]; exact h1, by rw [HE.out]; exact h2, fun h => by rw [HE.out] at h; exact absurd h hlt, HA⟩
            case rest =>
              obtain ⟨rfl, hii, hij2, HU, HA3⟩ := hcut
              clear HA
              obtain ⟨j2, hj2⟩ : ∃ j2, j2 = scanDown (fun x => !ult x dk[a]!) dk i2 j := ⟨_, rfl⟩
              have HJ2 : Hid (j2 = scanDown (fun x => !ult x dk[a]!) dk i2 j) := hj2
              clear hj2
              go_step
              go_step
              go_cut [11] from 99 to 152 (fun s10 wc => s10 = .int .i64 j2 ∧ j2 ≤ j ∧ i2 ≤ j2 + 1 ∧ Hid (i2 ≤ j2 → ult (G j2) (G a) = true) ∧ Hid (Arr w0 g off N dk wc))
              case first =>
                go_step
                go_loopg [11] (b + 1) (fun k vj wr => ∃ j' : Nat, vj = .int .i64 j' ∧ j' ≤ j ∧ i2 ≤ j' + 1 ∧ j' ≤ k ∧ Hid (Arr w0 g off N dk wr) ∧ Hid (j2 = scanDown (fun x => !ult x dk[a]!) dk i2 j'))
                case atStart => exact ⟨j, rfl, by omega, by omega, by omega, HA3, HJ2⟩
                case round =>
                  clear HA3 HJ2
                  obtain ⟨j', rfl, h1, h2, h3, HA, HI⟩ := hrel
                  by_cases hlt : i2 ≤ j'
                  · obtain ⟨jp, rfl⟩ : ∃ q, j' = q + 1 := ⟨j' - 1, by omega⟩
                    have hcw : ∀ t, t < N → wr.cell? ⟨g, off + t, none⟩ = some (.int .u64 (G t)) := fun t ht => by rw [HG.out]; exact HA.out.cell t ht
                    have hfw : ∀ t, t < N → wr.frozen? ⟨g, off + t, none⟩ = false := fun t ht => HA.out.frozen t ht
                    have hz : (i2 : Int) ≤ (jp : Int) + 1 := by omega
                    have hzd : decide ((i2 : Int) ≤ (jp : Int) + 1) = true := decide_eq_true hz
                    cases hl : ult (G (jp + 1)) (G a)
                    · go_wp2_with fail
                      go_quiet (first | (go_at_call 12; refine Calls.quiet_of_same (less _ _ _)))
                      replace HA : Hid (Arr w0 g off N _ (wr.drewN nq)) := HA.out.draws nq
                      replace hcw : ∀ t, t < N → (wr.drewN nq).cell? ⟨g, off + t, none⟩ = some (.int .u64 (G t)) := hcw
                      replace hfw : ∀ t, t < N → (wr.drewN nq).frozen? ⟨g, off + t, none⟩ = false := hfw
                      generalize wr.drewN nq = wr at HA hcw hfw ⊢
                      clear nq
                      go_wp2_with fail
                      go_roundg jp
                      case measure => omega
                      case rel => exact ⟨jp, by first | rfl | go_num, by omega, by omega, by omega, HA, show _ = _ by rw [HI.out, down_go hlt (by rw [← HG.out, ← HG.out, hl]; rfl)]⟩
                    · have HE : Hid (j2 = jp + 1) := by show _ = _; rw [HI.out, down_no (by rw [← HG.out, ← HG.out, hl]; rfl)]
                      go_wp2_with fail
                      go_quiet (first | (go_at_call 12; refine Calls.quiet_of_same (less _ _ _)))
                      replace HA : Hid (Arr w0 g off N _ (wr.drewN nq)) := HA.out.draws nq
                      replace hcw : ∀ t, t < N → (wr.drewN nq).cell? ⟨g, off + t, none⟩ = some (.int .u64 (G t)) := hcw
                      replace hfw : ∀ t, t < N → (wr.drewN nq).frozen? ⟨g, off + t, none⟩ = false := hfw
                      generalize wr.drewN nq = wr at HA hcw hfw ⊢
                      clear nq
                      go_wp2_with fail
                      go_meet
                      case rel => exact ⟨by rw [HE.out] <;> first | rfl | go_num, by rw [HE.out]; exact h1, by rw [HE.out]; exact h2, fun _ => by rw [HE.out]; exact hl, HA⟩
                  · skip
                    have hcw : ∀ t, t < N → wr.cell? ⟨g, off + t, none⟩ = some (.int .u64 (G t)) := fun t ht => by rw [HG.out]; exact HA.out.cell t ht
                    have hfw : ∀ t, t < N → wr.frozen? ⟨g, off + t, none⟩ = false := fun t ht => HA.out.frozen t ht
                    have hz : ¬ (i2 : Int) ≤ (j' : Int) := by omega
                    have hzd : decide ((i2 : Int) ≤ (j' : Int)) = false := decide_eq_false hz
                    have HE : Hid (j2 = j') := by show _ = _; rw [HI.out, down_far hlt]
                    go_wp2_with fail
                    go_quiet (first | (go_at_call 12; refine Calls.quiet_of_same (less _ _ _)))
                    replace HA : Hid (Arr w0 g off N _ (wr.drewN nq)) := HA.out.draws nq
                    replace hcw : ∀ t, t < N → (wr.drewN nq).cell? ⟨g, off + t, none⟩ = some (.int .u64 (G t)) := hcw
                    replace hfw : ∀ t, t < N → (wr.drewN nq).frozen? ⟨g, off + t, none⟩ = false := hfw
                    generalize wr.drewN nq = wr at HA hcw hfw ⊢
                    clear nq
                    go_wp2_with fail
                    go_meet
                    case rel => exact ⟨by rw [HE.out], by rw [HE.out]; exact h1, by rw [HE.out]; exact h2, fun h => by rw [HE.out] at h; exact absurd h hlt, HA⟩
              case rest =>
                obtain ⟨rfl, hjj, hij3, HD, HA⟩ := hcut
                clear HA3
                generalize wc = wr at HA ⊢
                have HPE := partLoop_eq ult a i j dk
                rw [← HI2.out, ← HJ2.out] at HPE
                by_cases hgt : i2 > j2
                · have HP : Hid (R = (j2, false, swp dk j2 a)) := by show _ = _; rw [← HO.out, HPE, if_pos hgt]
                  clear HPE
                  have HS : Hid (Arr w0 g off N (swp dk j2 a) ((wr.setCell ⟨g, off + j2, none⟩ (.int .u64 (G a))).setCell ⟨g, off + a, none⟩ (.int .u64 (G j2))).drew) := by
                    show Arr _ _ _ _ _ _
                    rw [HG.out, HG.out]
                    exact (HA.out.swap j2 a (by omega) (by omega)).drew
                  have hcw : ∀ t, t < N → wr.cell? ⟨g, off + t, none⟩ = some (.int .u64 (G t)) := fun t ht => by rw [HG.out]; exact HA.out.cell t ht
                  have hfw : ∀ t, t < N → wr.frozen? ⟨g, off + t, none⟩ = false := fun t ht => HA.out.frozen t ht
                  obtain ⟨v2, hv2⟩ := HA.out.cell2 j2 a (by omega) (by omega) (.int .u64 (G a))
                  go_wp2_with fail
                  go_region
                  all_goals go_wp2_with fail
                  go_ret2
                  exact ⟨by rw [HP.out]; rfl, by rw [HP.out]; exact HS⟩
                · have hne : i2 ≠ j2 := by
                    intro e
                    have h1 := HU.out (by omega)
                    have h2 := HD.out (by omega)
                    rw [e, h2] at h1
                    cases h1
                  have HP : Hid (partLoop ult a (i2 + 1) (j2 - 1) (swp dk i2 j2) = partLoop ult a i j dk) := by show _ = _; rw [HPE, if_neg hgt]
                  clear HPE
                  have hcw : ∀ t, t < N → wr.cell? ⟨g, off + t, none⟩ = some (.int .u64 (G t)) := fun t ht => by rw [HG.out]; exact HA.out.cell t ht
                  have hfw : ∀ t, t < N → wr.frozen? ⟨g, off + t, none⟩ = false := fun t ht => HA.out.frozen t ht
                  go_wp2_with fail
                  go_region
                  all_goals go_wp2_with fail
                  go_roundg (j2 - 1)
                  case measure => omega
                  case rel =>
                    refine ⟨i2 + 1, j2 - 1, swp dk i2 j2, by go_num, by first | go_num | (congr 1; omega), by omega, by omega, by omega, Nat.le_refl _, ?_, ?_⟩
                    · rw [HG.out, HG.out]
                      exact (HA.out.swap i2 j2 (by omega) (by omega)).drew
                    · show _ = _
                      rw [HP.out, HO.out]
end Go.Proofs.Qxb6627769a
