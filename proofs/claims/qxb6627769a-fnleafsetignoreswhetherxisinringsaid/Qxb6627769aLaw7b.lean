/-
  The law on x in the ring or not: its long way.
-/
import Derived.Test.Qxb6627769aLaw7
namespace Go.Proofs.Qxb6627769a
open Go.RowKit
set_option linter.unusedVariables false

theorem two_start {B : Nat} {w0 w2 w3 : World} {g a c : Nat} (h1 : OwnL B w0 28 (.slice (some ⟨g, 0, none⟩) 0 a) 0 [] w2) (hg : g < w2.heap.size) (hown : w3.ownsRow B 28 1 (.slice (some ⟨w2.heap.size, 0, none⟩) 0 c) 0 []) (hgr : w2.grownBy w3 none) : Two B w0 (.slice (some ⟨g, 0, none⟩) 0 a) 0 [] (.slice (some ⟨w2.heap.size, 0, none⟩) 0 c) 0 [] w3 := by
  have h2 := OwnL.start hown hgr h1.below h1.size
  refine ⟨⟨h1.own.kept hgr (Or.inr (by simp [Value.ownBlock])), h1.blk, h2.below, h2.size⟩, h2, ?_⟩
  intro e
  have := Option.some.inj e
  simp at this
  omega

theorem with_skip {x : Int} {f : Nat → Int} {k : Nat} (h : ¬ (wplaced x f k = false ∧ x ≤ f k)) : wwith x f k ++ (if wplaced x f k = false ∧ x ≤ f k then [x] else []) = wwith x f k := by rw [if_neg h, List.append_nil]
theorem with_put {x : Int} {f : Nat → Int} {k : Nat} (h : wplaced x f k = false ∧ x ≤ f k) : wwith x f k ++ (if wplaced x f k = false ∧ x ≤ f k then [x] else []) = wwith x f k ++ [x] := by rw [if_pos h]
theorem with_next {x : Int} {f : Nat → Int} {k : Nat} {W : List Int} (h : wwith x f k ++ (if wplaced x f k = false ∧ x ≤ f k then [x] else []) = W) : wwith x f (k + 1) = W ++ (if f k = x then [] else [f k]) := by rw [← h]; rfl

set_option maxHeartbeats 4000000 in
set_option maxRecDepth 100000 in
theorem law7 (x : Int) (ao : Option Addr) (n cap l : Nat) (f : Nat → Int) (w : World) (hn : n ≤ 4096) (hl : l ≤ 65536) (hr : Row w ao n f) (hu : ∀ j, j < n → 0 ≤ f j ∧ f j < 18446744073709551616) (hx : 0 ≤ x ∧ x < 18446744073709551616) :
    Calls Try.prog 4 #[.int .u64 x, .slice ao n cap, .int .i64 (l : Int)] w fun e w' => e = .returned (.bool true) ∧ Hid (Below w.heap.size w w') := by
  have hB := bytes9 x ao n cap (l : Int)
  rw [decide_eq_true (by omega)] at hB
  have hA := ascending ao n cap f w (by omega) hr
  have hz1 : ¬ (4096 : Int) < (n : Int) := by omega
  have hz4 : decide ((l : Int) < 0) = false := decide_eq_false (by omega)
  have hz5 : ¬ (65536 : Int) < (l : Int) := by omega
  have HR : Hid (Row w ao n f) := hr
  have HU : Hid (∀ j, j < n → 0 ≤ f j ∧ f j < 18446744073709551616) := hu
  have HX : Hid (0 ≤ x ∧ x < 18446744073709551616) := hx
  clear hr hu hx
  obtain ⟨i0, hi0, hy0, hy1, hy2⟩ := info_parts info28
  go_enter Try.func4, Try.ntmps4
  go_upto_region 7 with (first | (go_at_call 9; refine (hB _).mono ?_; rintro e w' ⟨rfl, hw⟩; subst w'))
  clear hB
  go_upto_if 34 with (go_at_call 6; refine hA.mono ?_; rintro e w1 ⟨B, rfl, hgr, hd1⟩)
  clear hA
  cases B with
  | false =>
    clear hgr
    have HD : Hid (Below w.heap.size w w1) := hd1.below _
    clear hd1
    go_wp2
    go_ret
    exact ⟨rfl, HD⟩
  | true =>
    have HG : Hid (Grows f n) := hgr rfl
    have HR1 : Hid (Row w1 ao n f) := HR.out.below (hd1.below _)
    have HF : Hid (∀ w', Below w1.heap.size w1 w' → Below w.heap.size w w') := fun w' h => (hd1.below _).trans (by rw [hd1.size] at h; exact h)
    clear hgr hd1 HR
    go_upto_region 10 with (at_make; refine wpList_make_own _ rfl (.const (.int .i64 0)) (.tmp 37) 26 rfl w1.heap.size 28 i0 (.int .u64 0) 1 Try.underlying26 hi0 hy0 hy1 .i64 .i64 ((n : Int) + 1) (n + 1) rfl rfl (by omega) (by rw [hy2]; omega) (by unfold maxLen; omega) (Nat.le_refl _) ?_; intro w2 hown1 hgrow1)
    have HO1 : Hid (OwnL w1.heap.size w1 28 (.slice (some ⟨w1.heap.size, 0, none⟩) 0 (n + 1)) 0 [] w2) := OwnL.start hown1 hgrow1 (Below.refl _ _) (Nat.le_refl _)
    clear hown1 hgrow1
    go_upto_region 11 with (at_make; refine wpList_make_own _ rfl (.const (.int .i64 0)) (.tmp 40) 26 rfl w1.heap.size 28 i0 (.int .u64 0) 1 Try.underlying26 hi0 hy0 hy1 .i64 .i64 (n : Int) n rfl rfl rfl (by rw [hy2]; omega) (by unfold maxLen; omega) HO1.out.size ?_; intro w3 hown2 hgrow2)
    have HT : Hid (Two w1.heap.size w1 (.slice (some ⟨w1.heap.size, 0, none⟩) 0 (n + 1)) 0 [] (.slice (some ⟨w2.heap.size, 0, none⟩) 0 n) 0 [] w3) := two_start HO1.out (HO1.out.ge w1.heap.size rfl).2 hown2 hgrow2
    clear HO1 hown2 hgrow2
    go_wp2
    go_loopg [7, 8, 9, 10] (n + 1) (fun g v7 v8 v9 v10 wr => ∃ (k p7 p8 : Nat) (pl : Bool), v10 = .int .i64 (k : Int) ∧ v9 = .bool pl ∧ k ≤ n ∧ n - k ≤ g ∧ Hid (wplaced x f k = pl) ∧ Hid (Two w1.heap.size w1 v7 p7 (wwith x f k) v8 p8 (wout x f k) wr))
    case atStart => exact ⟨0, 0, 0, false, by go_num, rfl, by omega, by omega, rfl, HT⟩
    case round =>
      clear HT
      obtain ⟨k, p7, p8, pl, rfl, rfl, hk, hg, HPL, HT⟩ := hrel
      have hp7 : p7 ≤ k + 1 := by
        have h := wwith_le x f k
        rw [HT.out.one.len] at h
        split at h <;> omega
      have hp8 : p8 ≤ k := by
        have h := wout_le x f k
        rw [HT.out.two.len] at h
        omega
      have hbn : w1.heap.size ≤ wr.heap.size := HT.out.one.size
      by_cases hlt : k < n
      · obtain ⟨b, off, rfl, hb, hc⟩ := HR1.out.op (by omega)
        have hck : wr.cell? ⟨b, off + k, none⟩ = some (.int .u64 (f k)) := HT.out.cell hb (hc k hlt)
        clear hc
        obtain ⟨y, hy⟩ : ∃ y, y = f k := ⟨_, rfl⟩
        rw [← hy] at hck
        have HY : Hid (y = f k) := hy
        clear hy
        have hltz : (k : Int) < (n : Int) := by omega
        go_upto_region 16 with fail
        go_cut [58] from 42 to 73 (fun s58 wc => ∃ bit : Bool, s58 = .bool bit ∧ Hid (bit = (!pl && decide (x ≤ y))) ∧ wc = wr)
        case first =>
          cases pl with
          | true =>
            go_wp2
            go_meet
            case rel => exact ⟨false, rfl, rfl, rfl⟩
          | false =>
            by_cases hle : x ≤ y
            · have hled : decide (x ≤ y) = true := decide_eq_true hle
              go_wp2
              go_meet
              case rel => exact ⟨true, rfl, by show _ = _; rw [hled]; rfl, rfl⟩
            · have hled : decide (x ≤ y) = false := decide_eq_false hle
              go_wp2
              go_meet
              case rel => exact ⟨false, rfl, by show _ = _; rw [hled]; rfl, rfl⟩
        case rest =>
        obtain ⟨bit, rfl, HBIT, hwc⟩ := hcut
        subst hwc
        go_step
        go_cut [7, 9] from 42 to 73 (fun s7 s9 wc => ∃ (q7 : Nat) (W : List Int) (pl2 : Bool), s9 = .bool pl2 ∧ q7 ≤ k + 2 ∧ Hid (wwith x f k ++ (if wplaced x f k = false ∧ x ≤ f k then [x] else []) = W) ∧ Hid (wplaced x f (k + 1) = pl2) ∧ Hid (Two w1.heap.size w1 s7 q7 W u8 p8 (wout x f k) wc))
        case first =>
          have HP : Hid (wplaced x f (k + 1) = (pl || bit)) := by
            have e : wplaced x f (k + 1) = (wplaced x f k || decide (x ≤ f k)) := rfl
            show _ = _
            rw [e, HPL.out, ← HY.out, HBIT.out]
            cases pl <;> rfl
          have HQ : Hid ((wplaced x f k = false ∧ x ≤ f k) ↔ bit = true) := by
            show _ ↔ _
            rw [HPL.out, ← HY.out, HBIT.out]
            cases pl <;> simp
          cases bit with
          | true =>
            go_wp2_with (at_builtin; refine wpList_append_own_at _ rfl (.tmp 59) (.tmp 61) 26 rfl w1.heap.size 28 i0 (.int .u64 0) 1 8 Try.underlying26 hi0 hy0 hy1 hy2 rfl (by decide) u7 p7 ((wwith x f k).map (Value.int .u64)) rfl (HT.out.one.own.alloc _) ⟨wc.heap.size, 0, none⟩ 1 1 [.int .u64 x] rfl rfl (cell_one_new _ _ _) (by simp [Value.oneCell']) (by unfold maxLen; omega) (by omega) (by simp; omega) ?_; intro v1 w4 hown2 hgrow2 _ hat2)
            have HT2 : Hid (Two w1.heap.size w1 v1 (p7 + 1) (wwith x f k ++ [x]) u8 p8 (wout x f k) w4) := HT.out.push1 hown2 hgrow2 hat2
            clear hown2 hgrow2 hat2
            go_meet
            case rel => exact ⟨p7 + 1, _, true, rfl, by omega, with_put (HQ.out.2 (by trivial)), by show _ = _; rw [HP.out, Bool.or_true], HT2⟩
          | false =>
            go_wp2
            go_meet
            case rel => exact ⟨p7, _, pl, rfl, by omega, with_skip (fun h => Bool.noConfusion (HQ.out.1 h)), by show _ = _; rw [HP.out, Bool.or_false], HT⟩
        case rest =>
          clear HT hbn
          obtain ⟨q7, W, pl2, rfl, hq7, HW, HP2, HT⟩ := hcut
          have hbn : w1.heap.size ≤ wc.heap.size := HT.out.one.size
          have HO : Hid (wout x f (k + 1) = wout x f k ++ (if f k = x then [] else [f k])) := rfl
          by_cases hyx : y = x
          · have hyb : (y != x) = false := by simp [hyx]
            have HW2 : Hid (wwith x f (k + 1) = W) := by
              have h := with_next HW.out
              rw [if_pos (HY.out ▸ hyx), List.append_nil] at h
              exact h
            have HO2 : Hid (wout x f (k + 1) = wout x f k) := by
              have h := HO.out
              rw [if_pos (HY.out ▸ hyx), List.append_nil] at h
              exact h
            clear HW HO
            go_wp2
            go_roundg (n - (k + 1))
            case measure => omega
            case rel => exact ⟨k + 1, q7, p8, pl2, by go_num, rfl, by omega, by omega, HP2, by rw [HW2.out, HO2.out]; exact HT⟩
          · have hyb : (y != x) = true := by simp [hyx]
            have HW2 : Hid (wwith x f (k + 1) = W ++ [y]) := by
              have h := with_next HW.out
              rw [if_neg (HY.out ▸ hyx), ← HY.out] at h
              exact h
            have HO2 : Hid (wout x f (k + 1) = wout x f k ++ [y]) := by
              have h := HO.out
              rw [if_neg (HY.out ▸ hyx), ← HY.out] at h
              exact h
            clear HW HO
            go_upto_region 21 with (at_builtin; refine wpList_append_own_at _ rfl (.tmp 66) (.tmp 68) 26 rfl w1.heap.size 28 i0 (.int .u64 0) 1 8 Try.underlying26 hi0 hy0 hy1 hy2 rfl (by decide) u7 q7 (W.map (Value.int .u64)) rfl (HT.out.one.own.alloc _) ⟨wc.heap.size, 0, none⟩ 1 1 [.int .u64 y] rfl rfl (cell_one_new _ _ _) (by simp [Value.oneCell']) (by unfold maxLen; omega) (by omega) (by simp; omega) ?_; intro v1 w4 hown2 hgrow2 _ hat2)
            have HT2 : Hid (Two w1.heap.size w1 v1 (q7 + 1) (W ++ [y]) u8 p8 (wout x f k) w4) := HT.out.push1 hown2 hgrow2 hat2
            have hbn2 : w1.heap.size ≤ w4.heap.size := HT2.out.one.size
            clear hown2 hgrow2 hat2
            go_wp2_with (at_builtin; refine wpList_append_own_at _ rfl (.tmp 70) (.tmp 72) 26 rfl w1.heap.size 28 i0 (.int .u64 0) 1 8 Try.underlying26 hi0 hy0 hy1 hy2 rfl (by decide) u8 p8 ((wout x f k).map (Value.int .u64)) rfl (HT2.out.two.own.alloc _) ⟨w4.heap.size, 0, none⟩ 1 1 [.int .u64 y] rfl rfl (cell_one_new _ _ _) (by simp [Value.oneCell']) (by unfold maxLen; omega) (by omega) (by simp; omega) ?_; intro v2 w5 hown3 hgrow3 _ hat3)
            have HT3 : Hid (Two w1.heap.size w1 v1 (q7 + 1) (W ++ [y]) v2 (p8 + 1) (wout x f k ++ [y]) w5) := HT2.out.push2 hown3 hgrow3 hat3
            clear hown3 hgrow3 hat3
            go_roundg (n - (k + 1))
            case measure => omega
            case rel => exact ⟨k + 1, q7 + 1, p8 + 1, pl2, by go_num, rfl, by omega, by omega, HP2, by rw [HW2.out, HO2.out]; exact HT3⟩
      · obtain rfl : k = n := by omega
        go_upto_if 75 with fail
        go_cut [7] from 76 to 79 (fun s7 wc => ∃ q7 : Nat, q7 ≤ k + 2 ∧ Hid (Two w1.heap.size w1 s7 q7 (wall x f k) u8 p8 (wout x f k) wc))
        case first =>
          cases pl with
          | true =>
            have HW : Hid (wall x f k = wwith x f k) := by show _ = _; unfold wall; rw [HPL.out]; simp
            go_wp2
            go_meet
            case rel => exact ⟨p7, by omega, by rw [HW.out]; exact HT⟩
          | false =>
            have HW : Hid (wall x f k = wwith x f k ++ [x]) := by show _ = _; unfold wall; rw [HPL.out]; simp
            go_wp2_with (at_builtin; refine wpList_append_own_at _ rfl (.tmp 76) (.tmp 78) 26 rfl w1.heap.size 28 i0 (.int .u64 0) 1 8 Try.underlying26 hi0 hy0 hy1 hy2 rfl (by decide) u7 p7 ((wwith x f k).map (Value.int .u64)) rfl (HT.out.one.own.alloc _) ⟨wr.heap.size, 0, none⟩ 1 1 [.int .u64 x] rfl rfl (cell_one_new _ _ _) (by simp [Value.oneCell']) (by unfold maxLen; omega) (by omega) (by simp; omega) ?_; intro v1 w4 hown2 hgrow2 _ hat2)
            have HT2 : Hid (Two w1.heap.size w1 v1 (p7 + 1) (wwith x f k ++ [x]) u8 p8 (wout x f k) w4) := HT.out.push1 hown2 hgrow2 hat2
            clear hown2 hgrow2 hat2
            go_meet
            case rel => exact ⟨p7 + 1, by omega, by rw [HW.out]; exact HT2⟩
        case rest =>
          clear HT HPL hp7 hbn
          obtain ⟨q7, hq7, HT⟩ := hcut
          obtain ⟨r1, r2⟩ := rings (x := x) HG.out HU.out HX.out
          obtain ⟨g7, c7, hv7, k1⟩ := leafset_own (l := l) HT.out.one (by omega) hl r1.asc r1.u64 HX.out
          subst hv7
          have HT8 : Hid (OwnL w1.heap.size w1 28 u8 p8 (wout x f k) wc) := HT.out.two
          have HB7 : Hid (Below w1.heap.size w1 wc) := HT.out.one.below
          have hbn : w1.heap.size ≤ wc.heap.size := HT.out.one.size
          have HGD : Hid (Good x f k l (lsl x (wall x f k) l) (lsl x (wall x f k) l).length (wout x f k).length) := (good HG.out HU.out HX.out).1
          have HSM : Hid (lsl x (wout x f k) l = lsl x (wall x f k) l) := (good HG.out HU.out HX.out).2
          have HAU : Hid (Asc (wout x f k) ∧ U64 (wout x f k)) := ⟨r2.asc, r2.u64⟩
          have HP8 : Hid ((wout x f k).length = p8) := HT8.out.len
          clear r1 r2 HT
          go_upto_region 25 with (go_at_call 7; refine k1.mono ?_; rintro e w5 ⟨ga, ca, N, rfl, hN, hga, hca, hb5⟩)
          clear k1
          have HB5 : Hid (Below wc.heap.size wc w5) := hb5
          have HCA : Hid (∀ j, j < N → w5.cell? ⟨ga, 0 + j, none⟩ = some (.int .u64 ((lsl x (wall x f k) l).getD j 0))) := hca
          have HN : Hid ((lsl x (wall x f k) l).length = N) := hN
          have hO := HT8.out.later hb5
          obtain ⟨g8, c8, hv8, k2⟩ := leafset_own (x := x) (l := l) hO (by omega) hl HAU.out.1 HAU.out.2 HX.out
          subst hv8
          rw [HSM.out] at k2
          clear hb5 hca hN hO
          go_upto_region 26 with (go_at_call 7; refine k2.mono ?_; rintro e w6 ⟨gb, cb, N', rfl, hN', hgb, hcb, hb6⟩)
          clear k2
          obtain rfl : N = N' := by rw [← HN.out, hN']
          obtain ⟨G, hGe⟩ : ∃ G : Nat → Int, G = fun j => (lsl x (wall x f k) l).getD j 0 := ⟨_, rfl⟩
          have HAN : Hid (Ans x f k l p8 G N) := by
            have h := ans_of HGD.out
            rw [HN.out, HP8.out] at h
            rw [hGe]
            exact h
          have HC : Hid (∀ j, j < N → w6.cell? ⟨ga, j, none⟩ = some (.int .u64 (G j)) ∧ w6.cell? ⟨gb, j, none⟩ = some (.int .u64 (G j))) := fun j hj => by
            have h1 := (hb6.cell (p := ⟨ga, 0 + j, none⟩) hga).trans (HCA.out j hj)
            have h2 := hcb j hj
            rw [Nat.zero_add] at h1 h2
            rw [hGe]
            exact ⟨h1, h2⟩
          have hb16 : Below w1.heap.size w1 w6 := (HB7.out.trans (HB5.out.mono hbn)).trans (hb6.mono (Nat.le_trans hbn HB5.out.size))
          have HR6 : Hid (Row w6 ao k f) := HR1.out.below hb16
          have HBF : Hid (Below w.heap.size w w6) := HF.out _ hb16
          clear hGe hcb hb6 hgb hga hb16 HCA HGD HSM HAU HP8 HT8 HB7 HB5 HN hN' HR1 HF hbn
          go_upto_if 93 with fail
          go_cut [14] from 94 to 95 (fun s14 wd => s14 = .int .i64 (N : Int) ∧ wd = w6)
          case first =>
            have hN := HAN.out.N_eq
            by_cases hm : 2 * l < p8
            · have hmz : 2 * (l : Int) < (p8 : Int) := by omega
              rw [if_pos hm] at hN
              have HNZ : Hid (2 * (l : Int) = (N : Int)) := by show _ = _; omega
              clear hN
              go_wp2
              go_meet
              case rel => exact ⟨by rw [HNZ.out], rfl⟩
            · have hmz : ¬ 2 * (l : Int) < (p8 : Int) := by omega
              rw [if_neg hm] at hN
              have HNZ : Hid ((p8 : Int) = (N : Int)) := by show _ = _; omega
              clear hN
              go_wp2
              go_meet
              case rel => exact ⟨by rw [HNZ.out], rfl⟩
          case rest =>
            obtain ⟨rfl, rfl⟩ := hcut
            have hNle : N ≤ 4096 := by
              have := HAN.out.N_eq
              split at this <;> omega
            go_wp2
            go_loopg [15] (N + 1) (fun g v15 wr => ∃ t : Nat, v15 = .int .i64 (t : Int) ∧ t ≤ N ∧ N - t ≤ g ∧ Hid (Dn wc wr))
            case atStart => exact ⟨0, by go_num, by omega, by omega, Dn.refl _⟩
            case round =>
              obtain ⟨t, rfl, ht, hg2, HD⟩ := hrel
              by_cases hlt : t < N
              · have hltz : (t : Int) < (N : Int) := by omega
                have hca : wr.cell? ⟨ga, t, none⟩ = some (.int .u64 (G t)) := HD.out.cell (HC.out t hlt).1
                have hcb : wr.cell? ⟨gb, t, none⟩ = some (.int .u64 (G t)) := HD.out.cell (HC.out t hlt).2
                have hne : (G t == x) = false := beq_false_of_ne (HAN.out.ne t hlt)
                have hne2 : ¬ G t = x := HAN.out.ne t hlt
                go_upto_region 34 with fail
                go_quiet (fail)
                have HD1 : Hid (Dn wc (wr.drewN nq)) := HD.out.draws nq
                clear HD
                replace hca : (wr.drewN nq).cell? ⟨ga, t, none⟩ = some (.int .u64 (G t)) := hca
                generalize wr.drewN nq = wr at HD1 hca ⊢
                clear nq hcb
                rcases Nat.eq_zero_or_pos t with h0 | h0
                · subst h0
                  go_upto_region 38 with fail
                  go_quiet (fail)
                  have HD : Hid (Dn wc (wr.drewN nq)) := HD1.out.draws nq
                  clear HD1 hca
                  generalize wr.drewN nq = wr at HD ⊢
                  clear nq
                  go_wp2
                  go_roundg (N - 1)
                  case measure => omega
                  case rel => exact ⟨1, by go_num, by omega, by omega, HD⟩
                · obtain ⟨t', rfl⟩ : ∃ t', t = t' + 1 := ⟨t - 1, by omega⟩
                  have hcp : wr.cell? ⟨ga, t', none⟩ = some (.int .u64 (G t')) := HD1.out.cell (HC.out t' (by omega)).1
                  have hle : ¬ G (t' + 1) ≤ G t' := by have := HAN.out.up t' (t' + 1) (by omega) hlt; omega
                  have hgz : (0 : Int) < (t' : Int) + 1 := by omega
                  have hgd : decide ((0 : Int) < (t' : Int) + 1) = true := decide_eq_true hgz
                  go_upto_region 38 with fail
                  go_quiet (fail)
                  have HD : Hid (Dn wc (wr.drewN nq)) := HD1.out.draws nq
                  clear HD1 hca hcp
                  generalize wr.drewN nq = wr at HD ⊢
                  clear nq
                  go_wp2
                  go_roundg (N - (t' + 1 + 1))
                  case measure => omega
                  case rel => exact ⟨t' + 1 + 1, by go_num, by omega, by omega, HD⟩
              · obtain rfl : t = N := by omega
                go_wp2
                go_loopg [16, 17] (t + 1) (fun g v16 v17 wr => ∃ a j : Nat, v17 = .int .i64 (a : Int) ∧ v16 = .int .i64 (j : Int) ∧ a ≤ t ∧ t - a ≤ g ∧ j ≤ k ∧ Hid (a < t → ∃ q, q < k ∧ j ≤ q ∧ f q = G a) ∧ Hid (Dn wc wr))
                case atStart => exact ⟨0, 0, by go_num, by go_num, by omega, by omega, by omega, fun h => by obtain ⟨q, h1, h2⟩ := HAN.out.mem 0 h; exact ⟨q, h1, Nat.zero_le _, h2⟩, HD⟩
                case round =>
                  clear HD
                  obtain ⟨a, j0, rfl, rfl, ha, hg3, hjk0, HQ0, HD⟩ := hrel
                  by_cases hat : a < t
                  · obtain ⟨q, hq, hjq0, hfq0⟩ := HQ0.out hat
                    have HFQ : Hid (f q = G a) := hfq0
                    clear hfq0 HQ0
                    obtain ⟨b, off, rfl, hb, hcr⟩ := HR6.out.op (by omega)
                    have HCR : Hid (∀ j, j < k → wc.cell? ⟨b, off + j, none⟩ = some (.int .u64 (f j))) := hcr
                    clear hcr
                    have hatz : (a : Int) < (t : Int) := by omega
                    go_wp2
                    go_loopg [16] (k + 1) (fun g v16 wr => ∃ j : Nat, v16 = .int .i64 (j : Int) ∧ j ≤ q ∧ q - j ≤ g ∧ Hid (Dn wc wr))
                    case atStart => exact ⟨j0, rfl, hjq0, by omega, HD⟩
                    case round =>
                      clear HD
                      obtain ⟨j, rfl, hjq, hg4, HD⟩ := hrel
                      have hjk : (j : Int) < (k : Int) := by omega
                      have hjd : decide ((j : Int) < (k : Int)) = true := decide_eq_true hjk
                      have hca : wr.cell? ⟨ga, a, none⟩ = some (.int .u64 (G a)) := HD.out.cell (HC.out a hat).1
                      have hcr : wr.cell? ⟨b, off + j, none⟩ = some (.int .u64 (f j)) := HD.out.cell (HCR.out j (by omega))
                      go_upto_region 44 with fail
                      go_quiet (fail)
                      have HD1 : Hid (Dn wc (wr.drewN nq)) := HD.out.draws nq
                      clear HD
                      replace hca : (wr.drewN nq).cell? ⟨ga, a, none⟩ = some (.int .u64 (G a)) := hca
                      replace hcr : (wr.drewN nq).cell? ⟨b, off + j, none⟩ = some (.int .u64 (f j)) := hcr
                      generalize wr.drewN nq = wr at HD1 hca hcr ⊢
                      clear nq
                      by_cases hlt4 : f j < G a
                      · have hlt4d : decide (f j < G a) = true := decide_eq_true hlt4
                        have hjne : j ≠ q := fun e => by have := HFQ.out; rw [← e] at this; omega
                        go_wp2
                        go_roundg (q - (j + 1))
                        case measure => omega
                        case rel => exact ⟨j + 1, by go_num, by omega, by omega, HD1⟩
                      · have hlt4d : decide (f j < G a) = false := decide_eq_false hlt4
                        obtain rfl : j = q := by
                          rcases Nat.lt_or_ge j q with h | h
                          · have h1 := HG.out j q h hq
                            have h2 := HFQ.out
                            omega
                          · omega
                        have hfj : f j = G a := HFQ.out
                        have HFJ : Hid (f j = G a) := hfj
                        rw [hfj] at hcr
                        have hkj : ¬ (k : Int) ≤ (j : Int) := by omega
                        have hkjd : decide ((k : Int) ≤ (j : Int)) = false := decide_eq_false hkj
                        clear hfj HFQ
                        go_upto_region 46 with fail
                        go_quiet (fail)
                        have HD2 : Hid (Dn wc (wr.drewN nq)) := HD1.out.draws nq
                        clear HD1 hca hcr
                        generalize wr.drewN nq = wr at HD2 ⊢
                        clear nq
                        go_wp2
                        go_roundg (t - (a + 1))
                        case measure => omega
                        case rel => exact ⟨a + 1, j, by go_num, rfl, by omega, by omega, by omega, fun h => by
                            obtain ⟨q', h1, h2⟩ := HAN.out.mem (a + 1) h
                            have h3 := HAN.out.up a (a + 1) (by omega) h
                            rw [← h2, ← HFJ.out] at h3
                            refine ⟨q', h1, ?_, h2⟩
                            rcases Nat.lt_or_ge q' j with h4 | h4
                            · have := HG.out q' j h4 (by omega)
                              omega
                            · exact h4, HD2⟩
                  · obtain rfl : a = t := by omega
                    have HBE : Hid (Below w.heap.size w wr) := HBF.out.trans (HD.out.below _)
                    go_wp2
                    go_ret
                    exact ⟨rfl, HBE⟩
end Go.Proofs.Qxb6627769a
