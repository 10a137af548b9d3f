/-
  The law on ring distances: its long way.
-/
import Derived.Test.Qxb6627769aLaw8
namespace Go.Proofs.Qxb6627769a
open Go.RowKit
set_option linter.unusedVariables false

theorem cnt_yes {f : Nat → Int} {p : Int → Bool} {j : Nat} (h : p (f j) = true) : (upto f (j + 1)).countP p = (upto f j).countP p + 1 := by
  rw [upto_succ, List.countP_append]
  simp [h]
theorem cnt_no {f : Nat → Int} {p : Int → Bool} {j : Nat} (h : p (f j) = false) : (upto f (j + 1)).countP p = (upto f j).countP p := by
  rw [upto_succ, List.countP_append]
  simp [h]
theorem cnt_le (f : Nat → Int) (p : Int → Bool) (j : Nat) : (upto f j).countP p ≤ j := by
  refine Nat.le_trans List.countP_le_length ?_
  rw [upto_length]
  exact Nat.le_refl _

/-- What the law has written down behind k ids. -/
def wantL (x : Int) (f : Nat → Int) (n l k : Nat) : List Int := (upto f k).filter (fun y => y != x && near x (upto f n) l y)
theorem want_yes {x : Int} {f : Nat → Int} {n l k : Nat} (h : f k ≠ x) (h2 : near x (upto f n) l (f k) = true) : wantL x f n l (k + 1) = wantL x f n l k ++ [f k] := by
  unfold wantL
  rw [upto_succ, List.filter_append]
  congr 1
  simp [h, h2]
theorem want_no {x : Int} {f : Nat → Int} {n l k : Nat} (h : f k = x ∨ near x (upto f n) l (f k) = false) : wantL x f n l (k + 1) = wantL x f n l k := by
  unfold wantL
  rw [upto_succ, List.filter_append]
  rcases h with h | h <;> simp [h]
theorem want_le (x : Int) (f : Nat → Int) (n l k : Nat) : (wantL x f n l k).length ≤ k := by
  unfold wantL
  refine Nat.le_trans (List.length_filter_le _ _) ?_
  rw [upto_length]
  exact Nat.le_refl _

def cwP (x y : Int) (z : Int) : Bool := z != x && decide ((z - x) % 18446744073709551616 < (y - x) % 18446744073709551616)
def ccwP (x y : Int) (z : Int) : Bool := z != x && decide ((x - z) % 18446744073709551616 < (x - y) % 18446744073709551616)

theorem wrap_mod (m : Int) : IntKind.u64.wrap m = m % 18446744073709551616 := by
  simp [IntKind.wrap, IntKind.signed, IntKind.bits]
theorem cw_yes {x y z : Int} (h : z ≠ x) (h2 : IntKind.u64.wrap (z - x) < IntKind.u64.wrap (y - x)) : cwP x y z = true := by
  rw [wrap_mod, wrap_mod] at h2
  unfold cwP
  rw [decide_eq_true h2]
  simp [h]
theorem cw_no {x y z : Int} (h2 : IntKind.u64.wrap (y - x) ≤ IntKind.u64.wrap (z - x)) : cwP x y z = false := by
  rw [wrap_mod, wrap_mod] at h2
  unfold cwP
  rw [decide_eq_false (Int.not_lt.2 h2)]
  simp
theorem ccw_yes {x y z : Int} (h : z ≠ x) (h2 : IntKind.u64.wrap (x - z) < IntKind.u64.wrap (x - y)) : ccwP x y z = true := by
  rw [wrap_mod, wrap_mod] at h2
  unfold ccwP
  rw [decide_eq_true h2]
  simp [h]
theorem ccw_no {x y z : Int} (h2 : IntKind.u64.wrap (x - y) ≤ IntKind.u64.wrap (x - z)) : ccwP x y z = false := by
  rw [wrap_mod, wrap_mod] at h2
  unfold ccwP
  rw [decide_eq_false (Int.not_lt.2 h2)]
  simp

set_option maxHeartbeats 4000000 in
set_option maxRecDepth 100000 in
theorem law8 (x : Int) (ao : Option Addr) (n cap l : Nat) (f : Nat → Int) (w : World) (hn : n ≤ 4096) (hl : l ≤ 65536) (hr : Row w ao n f) (hu : ∀ j, j < n → 0 ≤ f j ∧ f j < 18446744073709551616) (hx : 0 ≤ x ∧ x < 18446744073709551616) :
    Calls Try.prog 3 #[.int .u64 x, .slice ao n cap, .int .i64 (l : Int)] w fun e w' => e = .returned (.bool true) ∧ Hid (Below w.heap.size w w') := by
  have hB := bytes5 x ao n cap (l : Int)
  rw [decide_eq_true (by omega)] at hB
  have hA := ascending ao n cap f w (by omega) hr
  have hz1 : ¬ (4096 : Int) < (n : Int) := by omega
  have hz4 : decide ((l : Int) < 0) = false := decide_eq_false (by omega)
  have hz5 : ¬ (65536 : Int) < (l : Int) := by omega
  have HR : Hid (Row w ao n f) := hr
  have HU : Hid (∀ j, j < n → 0 ≤ f j ∧ f j < 18446744073709551616) := hu
  have HX : Hid (0 ≤ x ∧ x < 18446744073709551616) := hx
  clear hr hu hx
  obtain ⟨i0, hi0, hy0, hy1, hy2⟩ := info_parts info22
  go_enter Try.func3, Try.ntmps3
  go_upto_region 7 with (first | (go_at_call 5; refine (hB _).mono ?_; rintro e w' ⟨rfl, hw⟩; subst w'))
  clear hB
  go_upto_if 34 with (go_at_call 6; refine hA.mono ?_; rintro e w1 ⟨B, rfl, hgr, hd1⟩)
  clear hA
  cases B with
  | false =>
    clear hgr
    have HD : Hid (Below w.heap.size w w1) := hd1.below _
    clear hd1
    go_wp2
    go_ret
    exact ⟨rfl, HD⟩
  | true =>
    have HG : Hid (Grows f n) := hgr rfl
    have HR1 : Hid (Row w1 ao n f) := HR.out.below (hd1.below _)
    have HF : Hid (∀ w', Below w1.heap.size w1 w' → Below w.heap.size w w') := fun w' h => (hd1.below _).trans (by rw [hd1.size] at h; exact h)
    clear hgr hd1 HR
    have k0 := toIDs ao n cap f w1 (by omega) HR1.out
    have k1 : ∀ w2, w1.heap.size < w2.heap.size → (∀ j, j < n → w2.cell? ⟨w1.heap.size, 0 + j, none⟩ = some (.int .u64 (f j))) → Calls Try.prog 7 #[.int .u64 x, .slice (some ⟨w1.heap.size, 0, none⟩) n n, .int .i64 (l : Int)] w2 fun e w' => LeafEnd (lsl x (upto f n) l) w2 e w' :=
      fun w2 h1 h2 => leafset w1.heap.size 0 n n l f x w2 (by omega) (Nat.le_refl _) hl h1 h2 HG.out HU.out HX.out
    go_upto_region 10 with (first
      | (go_at_call 8; refine k0.mono ?_; rintro e w2 ⟨rfl, hs2, hb2, hc2⟩)
      | (go_at_call 7; refine (k1 _ hs2 hc2).mono ?_; rintro e w3 ⟨ga, ca, N, rfl, hN, hga, hca, hb3⟩))
    have hb13 : Below w1.heap.size w1 w3 := hb2.trans (hb3.mono (Nat.le_of_lt hs2))
    have HR3 : Hid (Row w3 ao n f) := HR1.out.below hb13
    have HBF : Hid (Below w.heap.size w w3) := HF.out _ hb13
    have HCA : Hid (∀ j, j < N → w3.cell? ⟨ga, j, none⟩ = some (.int .u64 ((lsl x (upto f n) l).getD j 0))) := fun j hj => by
      have h := hca j hj
      rw [Nat.zero_add] at h
      exact h
    have HN : Hid ((lsl x (upto f n) l).length = N) := hN
    clear hb13 hca hN hb3 hb2 hc2 k0 k1 HR1 HF
    go_wp2
    go_loopg [8, 9] (n + 1) (fun g v8 v9 wr => ∃ k c : Nat, v9 = .int .i64 (k : Int) ∧ v8 = .int .i64 (c : Int) ∧ k ≤ n ∧ n - k ≤ g ∧ Hid ((upto f k).countP (fun z => z != x) = c) ∧ w3 = wr)
    case atStart => exact ⟨0, 0, by go_num, by go_num, by omega, by omega, rfl, rfl⟩
    case round =>
      obtain ⟨k, c, rfl, rfl, hk, hg, HCN, hwr⟩ := hrel
      subst hwr
      have hck : c ≤ k := by rw [← HCN.out]; exact cnt_le _ _ _
      by_cases hlt : k < n
      · obtain ⟨b, off, rfl, hb, hc⟩ := HR3.out.op (by omega)
        have hcc := hc k hlt
        clear hc
        have hltz : (k : Int) < (n : Int) := by omega
        by_cases hyx : f k = x
        · have hyb : (f k != x) = false := by simp [hyx]
          have HC2 : Hid ((upto f (k + 1)).countP (fun z => z != x) = c) := by show _ = _; rw [cnt_no (p := fun z => z != x) hyb]; exact HCN.out
          go_wp2
          go_roundg (n - (k + 1))
          case measure => omega
          case rel => exact ⟨k + 1, c, by go_num, rfl, by omega, by omega, HC2, rfl⟩
        · have hyb : (f k != x) = true := by simp [hyx]
          have HC2 : Hid ((upto f (k + 1)).countP (fun z => z != x) = c + 1) := by show _ = _; rw [cnt_yes (p := fun z => z != x) hyb, HCN.out]
          go_wp2
          go_roundg (n - (k + 1))
          case measure => omega
          case rel => exact ⟨k + 1, c + 1, by go_num, by go_num, by omega, by omega, HC2, rfl⟩
      · obtain rfl : k = n := by omega
        have HOT : Hid (others x (upto f k) = c) := HCN.out
        clear HCN
        go_upto_region 17 with (at_make; refine wpList_make_own _ rfl (.const (.int .i64 0)) (.tmp 55) 23 rfl w3.heap.size 22 i0 (.int .u64 0) 1 Try.underlying23 hi0 hy0 hy1 .i64 .i64 (k : Int) k rfl rfl rfl (by rw [hy2]; omega) (by unfold maxLen; omega) (Nat.le_refl _) ?_; intro w4 hown1 hgrow1)
        have HO0 : Hid (OwnL w3.heap.size w3 22 (.slice (some ⟨w3.heap.size, 0, none⟩) 0 k) 0 [] w4) := OwnL.start hown1 hgrow1 (Below.refl _ _) (Nat.le_refl _)
        clear hown1 hgrow1
        go_wp2
        go_loopg [10, 11] (k + 1) (fun g v10 v11 wr => ∃ t p : Nat, v11 = .int .i64 (t : Int) ∧ t ≤ k ∧ k - t ≤ g ∧ Hid (OwnL w3.heap.size w3 22 v10 p (wantL x f k l t) wr))
        case atStart => exact ⟨0, 0, by go_num, by omega, by omega, HO0⟩
        case round =>
          clear HO0
          obtain ⟨t, p, rfl, ht, hg2, HO⟩ := hrel
          have hpt : p ≤ t := by rw [← HO.out.len]; exact want_le _ _ _ _ _
          have hbn : w3.heap.size ≤ wr.heap.size := HO.out.size
          by_cases hlt2 : t < k
          · obtain ⟨b, off, rfl, hb, hc⟩ := HR3.out.op (by omega)
            have HCR : Hid (∀ j, j < k → wr.cell? ⟨b, off + j, none⟩ = some (.int .u64 (f j))) := fun j hj => (HO.out.below.cell (p := ⟨b, off + j, none⟩) hb).trans (hc j hj)
            have hct := HCR.out t hlt2
            clear hc
            have hltz : (t : Int) < (k : Int) := by omega
            obtain ⟨y, hy⟩ : ∃ y, y = f t := ⟨_, rfl⟩
            rw [← hy] at hct
            have HY : Hid (y = f t) := hy
            clear hy
            by_cases hyx : y = x
            · have hyb : (y == x) = true := by simp [hyx]
              have HW : Hid (wantL x f k l (t + 1) = wantL x f k l t) := want_no (Or.inl (HY.out ▸ hyx))
              go_wp2
              go_roundg (k - (t + 1))
              case measure => omega
              case rel => exact ⟨t + 1, p, by go_num, by omega, by omega, by rw [HW.out]; exact HO⟩
            · have hyb : (y == x) = false := beq_false_of_ne hyx
              by_cases hfew : c ≤ 2 * l
              · have hfz : (c : Int) ≤ 2 * (l : Int) := by omega
                have HW : Hid (wantL x f k l (t + 1) = wantL x f k l t ++ [y]) := by
                  have h := want_yes (x := x) (f := f) (n := k) (l := l) (k := t) (HY.out ▸ hyx) (by unfold near; rw [HOT.out, decide_eq_true hfew]; rfl)
                  rw [← HY.out] at h
                  exact h
                go_wp2_with (at_builtin; refine wpList_append_own_at _ rfl (.tmp 74) (.tmp 76) 23 rfl w3.heap.size 22 i0 (.int .u64 0) 1 8 Try.underlying23 hi0 hy0 hy1 hy2 rfl (by decide) u10 p ((wantL x f k l t).map (Value.int .u64)) rfl (HO.out.own.alloc _) ⟨wr.heap.size, 0, none⟩ 1 1 [.int .u64 y] rfl rfl (cell_one_new _ _ _) (by simp [Value.oneCell']) (by unfold maxLen; omega) (by omega) (by simp; omega) ?_; intro v1 w5 hown2 hgrow2 _ hat2)
                have HO2 : Hid (OwnL w3.heap.size w3 22 v1 (p + 1) (wantL x f k l t ++ [y]) w5) := HO.out.push hown2 hgrow2 hat2
                clear hown2 hgrow2 hat2
                go_roundg (k - (t + 1))
                case measure => omega
                case rel => exact ⟨t + 1, p + 1, by go_num, by omega, by omega, by rw [HW.out]; exact HO2⟩
              · have hfz : ¬ (c : Int) ≤ 2 * (l : Int) := by omega
                obtain ⟨w5, hw5⟩ : ∃ w5, w5 = wr := ⟨_, rfl⟩
                subst hw5
                go_wp2
                go_loopg [13, 14, 15] (k + 1) (fun g v13 v14 v15 wr => ∃ j c1 c2 : Nat, v15 = .int .i64 (j : Int) ∧ v13 = .int .i64 (c1 : Int) ∧ v14 = .int .i64 (c2 : Int) ∧ j ≤ k ∧ k - j ≤ g ∧ Hid ((upto f j).countP (cwP x y) = c1) ∧ Hid ((upto f j).countP (ccwP x y) = c2) ∧ w5 = wr)
                case atStart => exact ⟨0, 0, 0, by go_num, by go_num, by go_num, by omega, by omega, rfl, rfl, rfl⟩
                case round =>
                  obtain ⟨j, c1, c2, rfl, rfl, rfl, hj, hg3, H1, H2, hwr⟩ := hrel
                  subst hwr
                  have hc1 : c1 ≤ j := by rw [← H1.out]; exact cnt_le _ _ _
                  have hc2 : c2 ≤ j := by rw [← H2.out]; exact cnt_le _ _ _
                  by_cases hjk : j < k
                  · have hcj := HCR.out j hjk
                    obtain ⟨z, hz⟩ : ∃ z, z = f j := ⟨_, rfl⟩
                    rw [← hz] at hcj
                    have HZ : Hid (z = f j) := hz
                    clear hz
                    have hjkz : (j : Int) < (k : Int) := by omega
                    by_cases hzx : z = x
                    · have hzb : (z == x) = true := by simp [hzx]
                      have hzp : ∀ q : Bool, (z != x && q) = false := fun q => by simp [hzx]
                      have H1' : Hid ((upto f (j + 1)).countP (cwP x y) = c1) := by show _ = _; rw [cnt_no (by rw [← HZ.out]; exact hzp _)]; exact H1.out
                      have H2' : Hid ((upto f (j + 1)).countP (ccwP x y) = c2) := by show _ = _; rw [cnt_no (by rw [← HZ.out]; exact hzp _)]; exact H2.out
                      clear hzp
                      go_wp2
                      go_roundg (k - (j + 1))
                      case measure => omega
                      case rel => exact ⟨j + 1, c1, c2, by go_num, rfl, rfl, by omega, by omega, H1', H2', rfl⟩
                    · have hzb : (z == x) = false := beq_false_of_ne hzx
                      go_wp2
                      · have H1' : Hid ((upto f (j + 1)).countP (cwP x y) = c1 + 1) := by show _ = _; rw [cnt_yes (by rw [← HZ.out]; exact cw_yes hzx (by assumption)), H1.out]
                        have H2' : Hid ((upto f (j + 1)).countP (ccwP x y) = c2 + 1) := by show _ = _; rw [cnt_yes (by rw [← HZ.out]; exact ccw_yes hzx (by assumption)), H2.out]
                        go_roundg (k - (j + 1))
                        case measure => omega
                        case rel => exact ⟨j + 1, c1 + 1, c2 + 1, by go_num, by go_num, by go_num, by omega, by omega, H1', H2', rfl⟩
                      · have H1' : Hid ((upto f (j + 1)).countP (cwP x y) = c1 + 1) := by show _ = _; rw [cnt_yes (by rw [← HZ.out]; exact cw_yes hzx (by assumption)), H1.out]
                        have H2' : Hid ((upto f (j + 1)).countP (ccwP x y) = c2) := by show _ = _; rw [cnt_no (by rw [← HZ.out]; exact ccw_no (by assumption))]; exact H2.out
                        go_roundg (k - (j + 1))
                        case measure => omega
                        case rel => exact ⟨j + 1, c1 + 1, c2, by go_num, by go_num, rfl, by omega, by omega, H1', H2', rfl⟩
                      · have H1' : Hid ((upto f (j + 1)).countP (cwP x y) = c1) := by show _ = _; rw [cnt_no (by rw [← HZ.out]; exact cw_no (by assumption))]; exact H1.out
                        have H2' : Hid ((upto f (j + 1)).countP (ccwP x y) = c2 + 1) := by show _ = _; rw [cnt_yes (by rw [← HZ.out]; exact ccw_yes hzx (by assumption)), H2.out]
                        go_roundg (k - (j + 1))
                        case measure => omega
                        case rel => exact ⟨j + 1, c1, c2 + 1, by go_num, rfl, by go_num, by omega, by omega, H1', H2', rfl⟩
                      · have H1' : Hid ((upto f (j + 1)).countP (cwP x y) = c1) := by show _ = _; rw [cnt_no (by rw [← HZ.out]; exact cw_no (by assumption))]; exact H1.out
                        have H2' : Hid ((upto f (j + 1)).countP (ccwP x y) = c2) := by show _ = _; rw [cnt_no (by rw [← HZ.out]; exact ccw_no (by assumption))]; exact H2.out
                        go_roundg (k - (j + 1))
                        case measure => omega
                        case rel => exact ⟨j + 1, c1, c2, by go_num, rfl, rfl, by omega, by omega, H1', H2', rfl⟩
                  · obtain rfl : j = k := by omega
                    have HCW : Hid (cw x (upto f j) y = c1) := H1.out
                    have HCC : Hid (ccw x (upto f j) y = c2) := H2.out
                    have HNR : Hid (near x (upto f j) l y = (decide (c1 < l) || decide (c2 < l))) := by
                      show _ = _
                      unfold near
                      rw [HCW.out, HCC.out, HOT.out, decide_eq_false hfew, Bool.false_or]
                    clear H1 H2 HCW HCC
                    by_cases hin : c1 < l ∨ c2 < l
                    · have HW : Hid (wantL x f j l (t + 1) = wantL x f j l t ++ [y]) := by
                        have h := want_yes (x := x) (f := f) (n := j) (l := l) (k := t) (HY.out ▸ hyx) (by
                          rw [← HY.out, HNR.out]
                          rcases hin with h | h
                          · rw [decide_eq_true h]; rfl
                          · rw [decide_eq_true h, Bool.or_true])
                        rw [← HY.out] at h
                        exact h
                      clear HNR
                      go_upto_region 35 with fail
                      go_cut [116] from 57 to 120 (fun s116 wz => s116 = .bool true ∧ wz = w5)
                      case first =>
                        by_cases h1 : c1 < l
                        · have h1z : (c1 : Int) < (l : Int) := by omega
                          have h1d : decide ((c1 : Int) < (l : Int)) = true := decide_eq_true h1z
                          go_wp2
                          go_meet
                          case rel => exact ⟨rfl, rfl⟩
                        · have h1z : ¬ (c1 : Int) < (l : Int) := by omega
                          have h1d : decide ((c1 : Int) < (l : Int)) = false := decide_eq_false h1z
                          have h2z : (c2 : Int) < (l : Int) := by omega
                          have h2d : decide ((c2 : Int) < (l : Int)) = true := decide_eq_true h2z
                          go_wp2
                          go_meet
                          case rel => exact ⟨rfl, rfl⟩
                      case rest =>
                        obtain ⟨rfl, hwc⟩ := hcut
                        subst hwc
                        go_wp2_with (at_builtin; refine wpList_append_own_at _ rfl (.tmp 117) (.tmp 119) 23 rfl w3.heap.size 22 i0 (.int .u64 0) 1 8 Try.underlying23 hi0 hy0 hy1 hy2 rfl (by decide) u10 p ((wantL x f j l t).map (Value.int .u64)) rfl (HO.out.own.alloc _) ⟨wc.heap.size, 0, none⟩ 1 1 [.int .u64 y] rfl rfl (cell_one_new _ _ _) (by simp [Value.oneCell']) (by unfold maxLen; omega) (by omega) (by simp; omega) ?_; intro v1 w6 hown2 hgrow2 _ hat2)
                        have HO2 : Hid (OwnL w3.heap.size w3 22 v1 (p + 1) (wantL x f j l t ++ [y]) w6) := HO.out.push hown2 hgrow2 hat2
                        clear hown2 hgrow2 hat2
                        go_roundg (j - (t + 1))
                        case measure => omega
                        case rel => exact ⟨t + 1, p + 1, by go_num, by omega, by omega, by rw [HW.out]; exact HO2⟩
                    · have h1z : ¬ (c1 : Int) < (l : Int) := by omega
                      have h1d : decide ((c1 : Int) < (l : Int)) = false := decide_eq_false h1z
                      have h2z : ¬ (c2 : Int) < (l : Int) := by omega
                      have h2d : decide ((c2 : Int) < (l : Int)) = false := decide_eq_false h2z
                      have HW : Hid (wantL x f j l (t + 1) = wantL x f j l t) := want_no (Or.inr (by
                        rw [← HY.out, HNR.out, decide_eq_false (fun h => hin (Or.inl h)), decide_eq_false (fun h => hin (Or.inr h))]
                        rfl))
                      clear HNR hin
                      go_wp2
                      go_roundg (j - (t + 1))
                      case measure => omega
                      case rel => exact ⟨t + 1, p, by go_num, by omega, by omega, by rw [HW.out]; exact HO⟩
          · obtain rfl : t = k := by omega
            have HL : Hid (wantL x f t l t = lsl x (upto f t) l) := rfl
            have hpN : p = N := by rw [← HO.out.len, HL.out]; exact HN.out
            subst hpN
            obtain ⟨gw, cw', hv, h1, h2, h3, h4, hcw⟩ := HO.out.row
            subst hv
            obtain ⟨G, hGe⟩ : ∃ G : Nat → Int, G = fun j => (lsl x (upto f t) l).getD j 0 := ⟨_, rfl⟩
            have HC : Hid (∀ j, j < p → wr.cell? ⟨ga, j, none⟩ = some (.int .u64 (G j)) ∧ wr.cell? ⟨gw, j, none⟩ = some (.int .u64 (G j))) := fun j hj => by
              have e1 := (HO.out.below.cell (p := ⟨ga, j, none⟩) hga).trans (HCA.out j hj)
              have e2 := hcw j hj
              rw [Nat.zero_add, HL.out] at e2
              rw [hGe]
              exact ⟨e1, e2⟩
            have HBE : Hid (Below w.heap.size w wr) := HBF.out.trans (HO.out.below.mono HBF.out.size)
            clear hGe hcw h3 h4 h1 h2 HO HCA HL
            obtain ⟨w5, hw5⟩ : ∃ w5, w5 = wr := ⟨_, rfl⟩
            subst hw5
            go_wp2
            go_loopg [17] (p + 1) (fun g v17 wr => ∃ j : Nat, v17 = .int .i64 (j : Int) ∧ j ≤ p ∧ p - j ≤ g ∧ Hid (Dn w5 wr))
            case atStart => exact ⟨0, by go_num, by omega, by omega, Dn.refl _⟩
            case round =>
              obtain ⟨j, rfl, hj, hg3, HD⟩ := hrel
              by_cases hjp : j < p
              · have hjpz : (j : Int) < (p : Int) := by omega
                have hca : wr.cell? ⟨ga, j, none⟩ = some (.int .u64 (G j)) := HD.out.cell (HC.out j hjp).1
                have hcw : wr.cell? ⟨gw, j, none⟩ = some (.int .u64 (G j)) := HD.out.cell (HC.out j hjp).2
                go_upto_region 42 with fail
                go_quiet (fail)
                have HD1 : Hid (Dn w5 (wr.drewN nq)) := HD.out.draws nq
                clear HD hca hcw
                generalize wr.drewN nq = wr at HD1 ⊢
                clear nq
                go_wp2
                go_roundg (p - (j + 1))
                case measure => omega
                case rel => exact ⟨j + 1, by go_num, by omega, by omega, HD1⟩
              · obtain rfl : j = p := by omega
                have HBZ : Hid (Below w.heap.size w wr) := HBE.out.trans (HD.out.below _)
                go_wp2
                go_ret
                exact ⟨rfl, HBZ⟩
end Go.Proofs.Qxb6627769a
