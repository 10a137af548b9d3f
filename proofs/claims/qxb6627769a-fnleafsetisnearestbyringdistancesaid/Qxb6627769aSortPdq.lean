/-
  The library's sort of a range.
-/
import Derived.Test.Qxb6627769aSortHeap2
import Derived.Test.Qxb6627769aSortRev
import Derived.Test.Qxb6627769aSortPart
import Derived.Test.Qxb6627769aSortPins
import Derived.Test.Qxb6627769aSortBrk2
import Derived.Test.Qxb6627769aSortPiv2
import Derived.Sort.AssemblyPlain
namespace Go.Proofs.Qxb6627769a
open Go.RowKit Go.Sort
set_option linter.unusedVariables false

/-- The row holds d, its part from a to b put into order. -/
def Srtd (w0 : World) (g off N a b : Nat) (d : Array Int) (w : World) : Prop := ∃ d', PermIn a b d d' ∧ SortedIn ult a b d' ∧ Arr w0 g off N d' w
/-- Whoever orders the part a' to b' of dk has ordered the part a to b of d. -/
def Leads (a b : Nat) (d : Array Int) (a' b' : Nat) (dk : Array Int) : Prop := ∀ R, PermIn a' b' dk R → SortedIn ult a' b' R → PermIn a b d R ∧ SortedIn ult a b R
theorem Leads.fin {w0 : World} {g off N a b a' b' : Nat} {d dk d' : Array Int} {w : World} (h : Leads a b d a' b' dk) (hp : PermIn a' b' dk d') (hs : SortedIn ult a' b' d') (hA : Arr w0 g off N d' w) : Srtd w0 g off N a b d w :=
  ⟨d', (h d' hp hs).1, (h d' hp hs).2, hA⟩
theorem Leads.perm {a b a' b' : Nat} {d dk d1 : Array Int} (h : Leads a b d a' b' dk) (hp : PermIn a' b' dk d1) : Leads a b d a' b' d1 := fun R hR hs => h R (permIn_trans _ _ _ _ _ hp hR) hs

set_option maxHeartbeats 25600000 in
set_option maxRecDepth 1000000 in
theorem pdqs (hO : SWO ult) (w0 : World) (g off N cap : Nat) (hN : N < 4611686018427387904) : ∀ (n a b limit : Nat) (d : Array Int) (w : World), b - a < n → Arr w0 g off N d w → a ≤ b → b ≤ N → limit < 4611686018427387904 → Go.Sort.Below ult a b d →
    Calls Try.prog 14 #[.slice (some ⟨g, off, none⟩) N cap, .int .i64 a, .int .i64 b, .int .i64 limit] w fun e w' => e = .returned (.tuple #[]) ∧ Hid (Srtd w0 g off N a b d w') := by
  intro n
  induction n with
  | zero => intro _ _ _ _ _ h; exact absurd h (Nat.not_lt_zero _)
  | succ n ih =>
    intro a b limit d w hn hA hab hb hlimit hB
    have HIH : Hid _ := ih
    have HO : Hid _ := hO
    have HA : Hid (Arr w0 g off N d w) := hA
    have HL : Hid (Leads a b d a b d) := fun R h1 h2 => ⟨h1, h2⟩
    have HB : Hid (Go.Sort.Below ult a b d) := hB
    clear ih hA hB hO
    go_enter Try.func14, Try.ntmps14
    go_wp2
    go_loopg [1, 2, 3, 8, 9] (b - a) (fun kx s1 s2 s3 s8 s9 wr => ∃ (a' b' lim : Nat) (wb wp : Bool) (dk : Array Int), s1 = .int .i64 a' ∧ s2 = .int .i64 b' ∧ s3 = .int .i64 lim ∧ s8 = .bool wb ∧ s9 = .bool wp ∧
      a' ≤ b' ∧ b' ≤ N ∧ b' - a' ≤ kx ∧ kx ≤ b - a ∧ lim < 4611686018427387904 ∧ Hid (Go.Sort.Below ult a' b' dk) ∧ Hid (Leads a b d a' b' dk) ∧ Hid (Arr w0 g off N dk wr))
    case atStart => exact ⟨a, b, limit, true, true, d, rfl, rfl, rfl, rfl, rfl, hab, hb, Nat.le_refl _, Nat.le_refl _, hlimit, HB, HL, HA⟩
    case round =>
      clear HA HL HB hab hb hlimit
      obtain ⟨a', b', lim, wb, wp, dk, rfl, rfl, rfl, rfl, rfl, hab, hb, hkx, hkN, hlim, HB, HL, HA⟩ := hrel
      have hsz := HA.out.size
      have HSZ : Hid (dk.size = N) := hsz
      by_cases h12 : b' - a' ≤ 12
      · have h12z : (b' : Int) - (a' : Int) ≤ 12 := by omega
        have hc := insertion w0 g off N cap a' b' dk wr HA.out hab hb hN
        have HS : Hid _ := insertionSort_holds HO.out dk a' b' hab (by omega)
        clear hsz
        go_wp2_with (first | (go_at_call 17; refine hc.mono ?_; rintro e w1 ⟨rfl, HA1⟩))
        (try simp only [Exit.inBlock, Exit.then]); refine bodyPost_ret (v := .tuple #[]) (results_none rfl _ _ _) rfl ?_
        exact ⟨rfl, HL.out.fin HS.out.1 HS.out.2 HA1.out⟩
      · have h12z : ¬ ((b' : Int) - (a' : Int) ≤ 12) := by omega
        by_cases hl0 : lim = 0
        · subst hl0
          have hc := heap w0 g off N cap a' b' dk wr HA.out (by omega) hb hN
          have HS : Hid _ := heapSort_holds HO.out dk a' b' hab (by omega)
          clear hsz
          go_wp2_with (first | (go_at_call 18; refine hc.mono ?_; rintro e w1 ⟨rfl, HA1⟩))
          (try simp only [Exit.inBlock, Exit.then]); refine bodyPost_ret (v := .tuple #[]) (results_none rfl _ _ _) rfl ?_
          exact ⟨rfl, HL.out.fin HS.out.1 HS.out.2 HA1.out⟩
        · have hl0z : ¬ ((lim : Int) = 0) := by omega
          go_upto_if 35 with fail
          go_cut [3] from 19 to 133 (fun s3 wc => ∃ (lm : Nat) (d1 : Array Int), s3 = .int .i64 lm ∧ lm < 4611686018427387904 ∧ Hid (PermIn a' b' dk d1) ∧ Hid (Arr w0 g off N d1 wc))
          case first =>
            cases wb
            · have hc := scatter w0 g off N cap a' b' dk wr HA.out (by omega) hb hN
              have HP : Hid _ := breakPatterns_holds dk a' b' hab (by omega)
              clear hsz
              go_wp2_with (first | (go_at_call 19; refine hc.mono ?_; rintro e w1 ⟨rfl, HA1⟩))
              go_meet
              case rel => exact ⟨lim - 1, _, by congr 1; omega, by omega, HP, HA1⟩
            · clear hsz
              go_wp2_with fail
              go_meet
              case rel => exact ⟨lim, dk, rfl, hlim, permIn_refl _ _ _, HA⟩
          case rest =>
            obtain ⟨lm, d1, rfl, hlm, HP1, HA1⟩ := hcut
            clear HA
            have HB1 : Hid (Go.Sort.Below ult a' b' d1) := HB.out.perm (by omega) HP1.out
            have HL1 : Hid (Leads a b d a' b' d1) := HL.out.perm HP1.out
            have hsz1 := HA1.out.size
            clear HB HL HP1 hsz HSZ hl0 hl0z hlim
            have hc := choose w0 g off N cap a' b' d1 wc HA1.out (by omega) hb hN
            have hcr := choosePivot_holds ult d1 a' b' (by omega)
            generalize choosePivot ult d1 a' b' = cp at hc hcr
            obtain ⟨p0, h0⟩ := cp
            simp only [] at hc hcr
            obtain ⟨hp1, hp2⟩ := hcr
            have HSZ : Hid (d1.size = N) := hsz1
            clear hsz1
            go_upto_if 50 with (first | (go_at_call 20; refine hc.mono ?_; rintro e w2 ⟨rfl, HA2⟩))
            clear hc HA1
            generalize hintCode h0 = hv
            clear h0
            go_cut [11, 12] from 19 to 133 (fun s11 s12 wc => ∃ (p : Nat) (h : Int) (d2 : Array Int), s11 = .int .i64 p ∧ s12 = .int .i64 h ∧ a' ≤ p ∧ p < b' ∧ Hid (PermIn a' b' d1 d2) ∧ Hid (Arr w0 g off N d2 wc))
            case first =>
              by_cases hh : hv = 2
              · subst hh
                have hc := reverse w0 g off N cap a' b' d1 w2 HA2.out (by omega) hb hN
                have HP : Hid _ := reverseRange_holds d1 a' b' hab (by rw [HSZ.out]; exact hb)
                go_wp2_with (first | (go_at_call 21; refine hc.mono ?_; rintro e w3 ⟨rfl, HA3⟩))
                go_meet
                case rel => exact ⟨(b' - 1) - (p0 - a'), 1, _, by congr 1; omega, rfl, by omega, by omega, HP, HA3⟩
              · have hhb : (hv == 2) = false := beq_false_of_ne hh
                go_wp2_with fail
                go_meet
                case rel => exact ⟨p0, hv, d1, rfl, rfl, hp1, hp2, permIn_refl _ _ _, HA2⟩
            case rest =>
              obtain ⟨p, h, d2, rfl, rfl, hpa, hpb, HP2, HA3⟩ := hcut
              clear HA2 hp1 hp2
              have HB2 : Hid (Go.Sort.Below ult a' b' d2) := HB1.out.perm (by rw [HSZ.out]; exact hb) HP2.out
              have HL2 : Hid (Leads a b d a' b' d2) := HL1.out.perm HP2.out
              have HSZ2 : Hid (d2.size = N) := HA3.out.size
              clear HB1 HL1 HP2 HSZ
              generalize wc = wr at HA3 ⊢
              go_upto_region 15 with fail
              go_cut [12, 68] from 19 to 133 (fun s12 s68 wx => ∃ bb : Bool, s12 = .int .i64 h ∧ s68 = .bool bb ∧ wx = wr)
              case first =>
                by_cases h1 : h = 1
                · subst h1
                  cases wb <;> cases wp
                  all_goals
                    go_wp2_with fail
                    go_meet
                    exact ⟨_, rfl, rfl, rfl⟩
                · have h1b : (h == 1) = false := beq_false_of_ne h1
                  cases wb <;> cases wp
                  all_goals
                    go_wp2_with fail
                    go_meet
                    exact ⟨_, rfl, rfl, rfl⟩
              case rest =>
                obtain ⟨bb, rfl, rfl, rfl⟩ := hcut
                go_upto_if 68 with fail
                go_cut [] from 19 to 133 (fun wx => ∃ d3 : Array Int, Hid (PermIn a' b' d2 d3) ∧ Hid (Arr w0 g off N d3 wx))
                case first =>
                  cases bb
                  · go_wp2_with fail
                    go_meet
                    case rel => exact ⟨d2, permIn_refl _ _ _, HA3⟩
                  · have hc := partIns w0 g off N cap a' b' d2 _ HA3.out (by omega) hb hN
                    have HP : Hid _ := partialInsertionSort_holds HO.out d2 a' b' (by omega) (by rw [HSZ2.out]; exact hb) HB2.out
                    generalize partialInsertionSort ult d2 a' b' = r at hc HP
                    obtain ⟨d3, rb⟩ := r
                    simp only [] at hc
                    cases rb
                    · have HP3 : Hid (PermIn a' b' d2 d3) := HP.out.1
                      clear HP
                      go_wp2_with (first | (go_at_call 22; refine hc.mono ?_; rintro e w4 ⟨rfl, HA4⟩))
                      go_meet
                      case rel => exact ⟨d3, HP3, HA4⟩
                    · have HP3 : Hid (PermIn a' b' d2 d3 ∧ SortedIn ult a' b' d3) := ⟨HP.out.1, HP.out.2 rfl⟩
                      clear HP
                      go_wp2_with (first | (go_at_call 22; refine hc.mono ?_; rintro e w4 ⟨rfl, HA4⟩))
                      (try simp only [Exit.inBlock, Exit.then]); refine bodyPost_ret (v := .tuple #[]) (results_none rfl _ _ _) rfl ?_
                      exact ⟨rfl, HL2.out.fin HP3.out.1 HP3.out.2 HA4.out⟩
                case rest =>
                  obtain ⟨d3, HP3, HA4⟩ := hcut
                  have HB3 : Hid (Go.Sort.Below ult a' b' d3) := HB2.out.perm (by rw [HSZ2.out]; exact hb) HP3.out
                  have HL3 : Hid (Leads a b d a' b' d3) := HL2.out.perm HP3.out
                  have HSZ3 : Hid (d3.size = N) := HA4.out.size
                  clear HA3 HB2 HL2 HP3 HSZ2
                  generalize wc = wr at HA4 ⊢
                  have HA : Hid (Arr w0 g off N d3 wr) := HA4
                  clear HA4
                  go_upto_region 17 with fail
                  go_cut [87] from 19 to 133 (fun s87 wx => ∃ bb : Bool, s87 = .bool bb ∧ Hid (bb = true → 0 < a' ∧ ult d3[a' - 1]! d3[p]! = false) ∧ Hid (Arr w0 g off N d3 wx))
                  case first =>
                    obtain ⟨G, hG⟩ : ∃ G : Nat → Int, ∀ t, G t = d3[t]! := ⟨fun t => d3[t]!, fun _ => rfl⟩
                    have HG : Hid (∀ t, G t = d3[t]!) := hG
                    clear hG
                    have hcw : ∀ t, t < N → wr.cell? ⟨g, off + t, none⟩ = some (.int .u64 (G t)) := fun t ht => by rw [HG.out]; exact HA.out.cell t ht
                    have hfw : ∀ t, t < N → wr.frozen? ⟨g, off + t, none⟩ = false := fun t ht => HA.out.frozen t ht
                    by_cases ha0 : 0 < a'
                    · have hz : (0 : Int) < (a' : Int) := by omega
                      have hzd : decide ((0 : Int) < (a' : Int)) = true := decide_eq_true hz
                      cases hl : ult (G (a' - 1)) (G p)
                      · go_wp2_with fail
                        go_quiet (first | (go_at_call 12; refine Calls.quiet_of_same (less _ _ _)))
                        replace HA : Hid (Arr w0 g off N _ (wr.drewN nq)) := HA.out.draws nq
                        replace hcw : ∀ t, t < N → (wr.drewN nq).cell? ⟨g, off + t, none⟩ = some (.int .u64 (G t)) := hcw
                        replace hfw : ∀ t, t < N → (wr.drewN nq).frozen? ⟨g, off + t, none⟩ = false := hfw
                        generalize wr.drewN nq = wr at HA hcw hfw ⊢
                        clear nq
                        go_wp2_with fail
                        go_meet
                        case rel => exact ⟨_, rfl, fun _ => ⟨ha0, by rw [← HG.out, ← HG.out]; exact hl⟩, HA⟩
                      · go_wp2_with fail
                        go_quiet (first | (go_at_call 12; refine Calls.quiet_of_same (less _ _ _)))
                        replace HA : Hid (Arr w0 g off N _ (wr.drewN nq)) := HA.out.draws nq
                        replace hcw : ∀ t, t < N → (wr.drewN nq).cell? ⟨g, off + t, none⟩ = some (.int .u64 (G t)) := hcw
                        replace hfw : ∀ t, t < N → (wr.drewN nq).frozen? ⟨g, off + t, none⟩ = false := hfw
                        generalize wr.drewN nq = wr at HA hcw hfw ⊢
                        clear nq
                        go_wp2_with fail
                        go_meet
                        case rel => exact ⟨false, rfl, (fun h => absurd h Bool.false_ne_true), HA⟩
                    · have hz : ¬ (0 : Int) < (a' : Int) := by omega
                      have hzd : decide ((0 : Int) < (a' : Int)) = false := decide_eq_false hz
                      go_wp2_with fail
                      go_quiet (first | (go_at_call 12; refine Calls.quiet_of_same (less _ _ _)))
                      replace HA : Hid (Arr w0 g off N _ (wr.drewN nq)) := HA.out.draws nq
                      replace hcw : ∀ t, t < N → (wr.drewN nq).cell? ⟨g, off + t, none⟩ = some (.int .u64 (G t)) := hcw
                      replace hfw : ∀ t, t < N → (wr.drewN nq).frozen? ⟨g, off + t, none⟩ = false := hfw
                      generalize wr.drewN nq = wr at HA hcw hfw ⊢
                      clear nq
                      go_wp2_with fail
                      go_meet
                      case rel => exact ⟨false, rfl, (fun h => absurd h Bool.false_ne_true), HA⟩
                  case rest =>
                    obtain ⟨bb, rfl, HT, HA5⟩ := hcut
                    clear HA
                    cases bb
                    · clear HT
                      have hc := part w0 g off N cap a' b' p d3 wc HA5.out hpa hpb hb hN
                      obtain ⟨mid, ap, d4, hx⟩ : ∃ mid ap d4, partition ult d3 a' b' p = (mid, ap, d4) := ⟨_, _, _, rfl⟩
                      obtain ⟨r1, r2, r3, r4, r5, r6, r7⟩ := round_part HO.out (partition_holds ult) hpa hpb (by rw [HSZ3.out]; exact hb) HB3.out hx
                      rw [hx] at hc
                      simp only [] at hc
                      have R4 : Hid (Go.Sort.Below ult a' mid d4) := r4
                      have R5 : Hid (Go.Sort.Below ult (mid + 1) b' d4) := r5
                      have R6 : Hid _ := r6
                      have R7 : Hid _ := r7
                      clear hx r3 r4 r5 r6 r7
                      have htz : Int.tdiv ((b' : Int) - (a' : Int)) 8 = ((b' : Int) - (a' : Int)) / 8 := Int.tdiv_eq_ediv_of_nonneg (by omega)
                      go_upto_if 113 with (first | (go_at_call 24; refine hc.mono ?_; rintro e w7 ⟨rfl, HA7⟩))
                      clear hc HA5
                      by_cases h4 : mid - a' < b' - mid
                      · have h4z : (mid : Int) - (a' : Int) < (b' : Int) - (mid : Int) := by omega
                        have hih := HIH.out a' mid lm d4 w7 (by omega) HA7 (by omega) (by omega) hlm R4.out
                        go_wp2_with (first | (go_at_call 14; refine hih.mono ?_; rintro e w8 ⟨rfl, HS8⟩))
                        obtain ⟨d5, q1, q2, q3⟩ := HS8.out
                        obtain ⟨q4, q5⟩ := R6.out d5 q1 q2
                        go_roundg (b' - (mid + 1))
                        case measure => omega
                        case rel => exact ⟨mid + 1, b', lm, _, ap, d5, by go_num, rfl, rfl, rfl, rfl, by omega, hb, Nat.le_refl _, by omega, hlm, q4, (fun R hR hs => HL3.out R (q5 R hR hs).1 (q5 R hR hs).2), q3⟩
                      · have h4z : ¬ ((mid : Int) - (a' : Int) < (b' : Int) - (mid : Int)) := by omega
                        have hih := HIH.out (mid + 1) b' lm d4 w7 (by omega) HA7 (by omega) hb hlm R5.out
                        rw [show ((mid + 1 : Nat) : Int) = (mid : Int) + 1 by omega] at hih
                        go_wp2_with (first | (go_at_call 14; refine hih.mono ?_; rintro e w8 ⟨rfl, HS8⟩))
                        obtain ⟨d5, q1, q2, q3⟩ := HS8.out
                        obtain ⟨q4, q5⟩ := R7.out d5 q1 q2
                        go_roundg (mid - a')
                        case measure => omega
                        case rel => exact ⟨a', mid, lm, _, ap, d5, rfl, rfl, rfl, rfl, rfl, by omega, by omega, Nat.le_refl _, by omega, hlm, q4, (fun R hR hs => HL3.out R (q5 R hR hs).1 (q5 R hR hs).2), q3⟩
                    · obtain ⟨ha0, hnl⟩ := HT.out rfl
                      have hc := partEq w0 g off N cap a' b' p d3 wc HA5.out hpa hpb hb hN
                      obtain ⟨mid, d4, hx⟩ : ∃ mid d4, partitionEqual ult d3 a' b' p = (mid, d4) := ⟨_, _, rfl⟩
                      obtain ⟨r1, r2, r3, r4, r5⟩ := round_eq HO.out (partitionEqual_holds ult) ha0 hpa hpb (by rw [HSZ3.out]; exact hb) HB3.out hnl hx
                      rw [hx] at hc
                      simp only [] at hc
                      have R4 : Hid (Go.Sort.Below ult mid b' d4) := r4
                      have R5 : Hid _ := r5
                      clear hx r3 r4 r5 hnl HT
                      go_wp2_with (first | (go_at_call 23; refine hc.mono ?_; rintro e w7 ⟨rfl, HA7⟩))
                      go_roundg (b' - mid)
                      case measure => omega
                      case rel => exact ⟨mid, b', lm, wb, wp, d4, rfl, rfl, rfl, rfl, rfl, r2, hb, Nat.le_refl _, by omega, hlm, R4, (fun R hR hs => HL3.out R (R5.out R hR hs).1 (R5.out R hR hs).2), HA7⟩
end Go.Proofs.Qxb6627769a
