/-
  Leafset.
-/
import Derived.Test.Qxb6627769aOwn
namespace Go.Proofs.Qxb6627769a
open Go.RowKit Go.Deep
set_option linter.unusedVariables false

/-- A new slice that holds L comes back; what was there is as it was. -/
def LeafEnd (L : List Int) (w : World) (e : Ending) (w' : World) : Prop :=
  ∃ (g c k : Nat), e = .returned (.slice (some ⟨g, 0, none⟩) k c) ∧ L.length = k ∧ g < w'.heap.size ∧ (∀ j, j < k → w'.cell? ⟨g, 0 + j, none⟩ = some (.int .u64 (L.getD j 0))) ∧ Below w.heap.size w w'

theorem OwnL.leaf {w w' : World} {E : TypeId} {v : Value} {k : Nat} {L : List Int} (h : OwnL w.heap.size w E v k L w') : LeafEnd L w (.returned v) w' := by
  obtain ⟨g, c, hv, h1, h2, h3, h4, h5⟩ := h.row
  exact ⟨g, c, k, by rw [hv], h.len, h2, h5, h.below⟩

/-- Behind the sort. -/
theorem leaf_out {w wr w' : World} {g c N : Nat} {S L : List Int} (hB : Below w.heap.size w wr) (hg : w.heap.size ≤ g) (hN : S.length = N) (hL : ∀ s : List Int, s.Perm S → (∀ i j (hi : i < s.length) (hj : j < s.length), i < j → ¬ s[j] < s[i]) → s = L)
    (h : Srtd wr g 0 N 0 N S.toArray w') : LeafEnd L w (.returned (.slice (some ⟨g, 0, none⟩) N c)) w' := by
  obtain ⟨d, hp, hs, hA⟩ := h
  have hsz : d.size = N := by rw [hp.1]; simpa using hN
  have e : d.toList = L := by
    refine hL _ ?_ ?_
    · have h3 := hp.2.2
      have e1 : d.extract 0 N = d := by rw [← hsz]; simp
      have e2 : S.toArray.extract 0 N = S.toArray := by rw [← hN]; simp
      rw [e1, e2] at h3
      simpa using h3
    · intro i j hi hj hij
      simp only [Array.length_toList] at hi hj
      have h3 := hs i j (Nat.zero_le _) hij (by omega)
      rw [getElem!_pos d j hj, getElem!_pos d i hi] at h3
      have h4 := of_decide_eq_false h3
      simpa using h4
  refine ⟨g, c, N, rfl, by rw [← e]; simpa using hsz, hA.holds.2, fun j hj => ?_, hB.trans (hA.below hg hB.size)⟩
  rw [hA.cell j hj, ← e, getElem!_pos d j (by omega)]
  simp [show j < d.size by omega]

set_option maxHeartbeats 4000000 in
set_option maxRecDepth 100000 in
theorem leafset (b off n cap l : Nat) (f : Nat → Int) (x : Int) (w : World) (hn : n ≤ 65536) (hnc : n ≤ cap) (hl : l ≤ 65536) (hb : b < w.heap.size) (hcs : ∀ j, j < n → w.cell? ⟨b, off + j, none⟩ = some (.int .u64 (f j))) (hG : Grows f n)
    (hu : ∀ j, j < n → 0 ≤ f j ∧ f j < 18446744073709551616) (hx : 0 ≤ x ∧ x < 18446744073709551616) :
    Calls Try.prog 7 #[.int .u64 x, .slice (some ⟨b, off, none⟩) n cap, .int .i64 (l : Int)] w fun e w' => LeafEnd (lsl x (upto f n) l) w e w' := by
  have hfind := find b off n cap f x w hn hcs hG
  have HCS : Hid (∀ j, j < n → w.cell? ⟨b, off + j, none⟩ = some (.int .u64 (f j))) := hcs
  have HG : Hid (Grows f n) := hG
  have HU : Hid (∀ j, j < n → 0 ≤ f j ∧ f j < 18446744073709551616) := hu
  have HX : Hid (0 ≤ x ∧ x < 18446744073709551616) := hx
  clear hcs hG hu hx
  obtain ⟨i0, hi0, hz0, hz1, hz2⟩ := info_parts info28
  go_enter Try.func7, Try.ntmps7
  go_upto_region 3 with (go_at_call 10; refine hfind.mono ?_; rintro e w' ⟨⟨p, fd, rfl, HFD0⟩, hw⟩; subst w')
  have HFD : Hid (Found f n x p fd) := HFD0
  clear HFD0 hfind
  go_step; go_step; go_step; go_step; go_step; go_step; go_step; go_step; go_step; go_step; go_step
  go_cut [9, 10] from 24 to 29 (fun s9 s10 wc => ∃ q o : Nat, s9 = .int .i64 (o : Int) ∧ s10 = .int .i64 (q : Int) ∧ Hid (q = after p fd ∧ o = n - q + p ∧ p ≤ q ∧ q ≤ n) ∧ wc = w)
  case first =>
    cases fd with
    | true =>
      have hpn : p < n := (HFD.out.2.1 rfl).1
      go_wp2
      go_meet
      case rel => exact ⟨p + 1, n - 1, by go_num, by go_num, ⟨rfl, by omega, by omega, by omega⟩, rfl⟩
    | false =>
      have hpn : p ≤ n := HFD.out.1.1
      go_wp2
      go_meet
      case rel => exact ⟨p, n, rfl, rfl, ⟨rfl, by omega, by omega, by omega⟩, rfl⟩
  case rest =>
    obtain ⟨q, o, rfl, rfl, HQ, rfl⟩ := hcut
    by_cases hfew : o ≤ 2 * l
    · have hfz : (o : Int) ≤ 2 * (l : Int) := by omega
      obtain ⟨hq1, hq2, hq3, hq4⟩ := HQ.out
      have hpz : (p : Int) ≤ (n : Int) := by omega
      have hqz : (q : Int) ≤ (n : Int) := by omega
      have hncz : (n : Int) ≤ (cap : Int) := by omega
      have HL : Hid (lsl x (upto f n) l = upto f p ++ upto (fun t => f (q + t)) (n - q)) := leaf_few HG.out HFD.out HU.out HX.out hq1 (by omega)
      clear hq1 hq2
      go_upto_region 9 with (at_make; refine wpList_make_own _ rfl (.const (.int .i64 0)) (.tmp 34) 26 rfl wc.heap.size 28 i0 (.int .u64 0) 1 Try.underlying26 hi0 hz0 hz1 .i64 .i64 o o rfl rfl rfl (by rw [hz2]; omega) (by unfold maxLen; omega) (Nat.le_refl _) ?_; intro w3 hown1 hgrow1)
      have HO1 : Hid (OwnL wc.heap.size wc 28 (.slice (some ⟨wc.heap.size, 0, none⟩) 0 o) 0 [] w3) := OwnL.start hown1 hgrow1 (Below.refl _ _) (Nat.le_refl _)
      have HC3 : Hid (∀ j, j < n → w3.cell? ⟨b, off + j, none⟩ = some (.int .u64 (f j))) := fun j hj => (HO1.out.below.cell (p := ⟨b, off + j, none⟩) hb).trans (HCS.out j hj)
      clear hown1 hgrow1
      go_upto_region 10 with (at_builtin; refine wpList_append_own_at _ rfl (.tmp 36) (.tmp 39) 26 rfl wc.heap.size 28 i0 (.int .u64 0) 1 8 Try.underlying26 hi0 hz0 hz1 hz2 rfl (by decide) (.slice (some ⟨wc.heap.size, 0, none⟩) 0 o) 0 (([] : List Int).map (Value.int .u64)) rfl HO1.out.own ⟨b, off, none⟩ p cap ((upto f p).map (Value.int .u64)) rfl (by simp [upto_length]) (head_cell HC3.out (by omega)) (nums_one _) (by unfold maxLen; omega) (by omega) HO1.out.size ?_; intro v1 w4 hown2 hgrow2 _ hat2)
      have HO2 : Hid (OwnL wc.heap.size wc 28 v1 p (upto f p) w4) := by
        have h := HO1.out.more hown2 hgrow2 hat2
        rw [Nat.zero_add] at h
        exact h
      have HC4 : Hid (∀ j, j < n → w4.cell? ⟨b, off + j, none⟩ = some (.int .u64 (f j))) := fun j hj => (HO2.out.below.cell (p := ⟨b, off + j, none⟩) hb).trans (HCS.out j hj)
      clear hown2 hgrow2 hat2 HO1 HC3
      by_cases hqn : q < n
      · have hqnz : (q : Int) < (n : Int) := by omega
        go_wp2_with (at_builtin; refine wpList_append_own_at _ rfl (.tmp 41) (.tmp 44) 26 rfl wc.heap.size 28 i0 (.int .u64 0) 1 8 Try.underlying26 hi0 hz0 hz1 hz2 rfl (by decide) v1 p ((upto f p).map (Value.int .u64)) rfl HO2.out.own ⟨b, off + q, none⟩ (n - q) (cap - q) ((upto (fun t => f (q + t)) (n - q)).map (Value.int .u64)) rfl (by simp [upto_length]) (part_cell HC4.out (by omega)) (nums_one _) (by unfold maxLen; omega) (by omega) HO2.out.size ?_; intro v2 w5 hown3 hgrow3 _ hat3)
        have HO3 : Hid (OwnL wc.heap.size wc 28 v2 (p + (n - q)) (upto f p ++ upto (fun t => f (q + t)) (n - q)) w5) := HO2.out.more hown3 hgrow3 hat3
        clear hown3 hgrow3 hat3
        go_ret
        rw [HL.out]
        exact HO3.out.leaf
      · obtain rfl : q = n := by omega
        have HF : Hid (LeafEnd (lsl x (upto f q) l) wc (.returned v1) w4) := by
          have h := HO2.out.leaf
          rw [HL.out]
          show LeafEnd _ _ _ _
          simpa [upto] using h
        obtain ⟨g1, c1, hv1, _⟩ := HO2.out.row
        subst hv1
        by_cases hcq : q < cap
        · have hcqz : (q : Int) < (cap : Int) := by omega
          go_wp2
          go_ret
          exact HF.out
        · obtain rfl : q = cap := by omega
          go_wp2
          go_ret
          exact HF.out
    · obtain ⟨hq1, hq2, hq3, hq4⟩ := HQ.out
      have HL : Hid (∀ s : List Int, s.Perm (upto (runC f n q) l ++ upto (runA f n p) l) → (∀ i j (hi : i < s.length) (hj : j < s.length), i < j → ¬ s[j] < s[i]) → s = lsl x (upto f n) l) := fun s h1 h2 => leaf_sorted HG.out HFD.out HU.out HX.out hq1 (by omega) h1 h2
      have hfz : ¬ (o : Int) ≤ 2 * (l : Int) := by omega
      have hln : l < n := by omega
      have hpq : p ≤ n := by omega
      clear hq1 hq2
      go_upto_region 13 with (at_make; refine wpList_make_own _ rfl (.const (.int .i64 0)) (.tmp 49) 26 rfl wc.heap.size 28 i0 (.int .u64 0) 1 Try.underlying26 hi0 hz0 hz1 .i64 .i64 (2 * (l : Int)) (2 * l) rfl rfl (by omega) (by rw [hz2]; omega) (by unfold maxLen; omega) (Nat.le_refl _) ?_; intro w3 hown1 hgrow1)
      have HO1 : Hid (OwnL wc.heap.size wc 28 (.slice (some ⟨wc.heap.size, 0, none⟩) 0 (2 * l)) 0 [] w3) := OwnL.start hown1 hgrow1 (Below.refl _ _) (Nat.le_refl _)
      clear hown1 hgrow1
      go_wp2
      go_loopg [13, 52] (l + 1) (fun g v13 v52 wr => ∃ k : Nat, v52 = .int .i64 (k : Int) ∧ k ≤ l ∧ l - k ≤ g ∧ Hid (OwnL wc.heap.size wc 28 v13 k (upto (runC f n q) k) wr))
      case atStart => exact ⟨0, by go_num, by omega, by omega, HO1⟩
      case round =>
        clear HO1
        obtain ⟨k, rfl, hk, hg, HO⟩ := hrel
        by_cases hlt : k < l
        · obtain ⟨m, hm⟩ : ∃ m, m = (q + k) % n := ⟨_, rfl⟩
          have hmn : m < n := by rw [hm]; exact Nat.mod_lt _ (by omega)
          have hmz : ((q : Int) + (k : Int)) % (n : Int) = (m : Int) := by rw [hm, Int.natCast_emod, Int.natCast_add]
          have hc : wr.cell? ⟨b, off + m, none⟩ = some (.int .u64 (runC f n q k)) := by
            rw [HO.out.below.cell (p := ⟨b, off + m, none⟩) hb, HCS.out m hmn, hm]
            rfl
          have HS : Hid (upto (runC f n q) (k + 1) = upto (runC f n q) k ++ [runC f n q k]) := upto_succ _ _
          generalize runC f n q k = y at hc HS
          clear hm
          have hltz : (k : Int) < (l : Int) := by omega
          have hmnz : (m : Int) < (n : Int) := by omega
          have hbn : wc.heap.size ≤ wr.heap.size := HO.out.size
          go_wp2_with (at_builtin; refine wpList_append_own_at _ rfl (.tmp 55) (.tmp 64) 26 rfl wc.heap.size 28 i0 (.int .u64 0) 1 8 Try.underlying26 hi0 hz0 hz1 hz2 rfl (by decide) u13 k ((upto (runC f n q) k).map (Value.int .u64)) rfl (HO.out.own.alloc _) ⟨wr.heap.size, 0, none⟩ 1 1 [.int .u64 y] rfl rfl (cell_one_new _ _ _) (by simp [Value.oneCell']) (by unfold maxLen; omega) (by omega) (by simp; omega) ?_; intro v1 w4 hown2 hgrow2 _ hat2)
          have HO2 : Hid (OwnL wc.heap.size wc 28 v1 (k + 1) (upto (runC f n q) (k + 1)) w4) := by
            have h := HO.out.push hown2 hgrow2 hat2
            rw [← HS.out] at h
            exact h
          clear hown2 hgrow2 hat2 hc
          go_roundg (l - (k + 1))
          case measure => omega
          case rel => exact ⟨k + 1, by go_num, by omega, by omega, HO2⟩
        · obtain rfl : k = l := by omega
          go_wp2
          go_loopg [13, 15] (k + 1) (fun g v13 v15 wr => ∃ t : Nat, v15 = .int .i64 ((t : Int) + 1) ∧ t ≤ k ∧ k - t ≤ g ∧ Hid (OwnL wc.heap.size wc 28 v13 (k + t) (upto (runC f n q) k ++ upto (runA f n p) t) wr))
          case atStart => exact ⟨0, by go_num, by omega, by omega, by show OwnL _ _ _ _ _ _ _; simpa [upto] using HO.out⟩
          case round =>
            clear HO
            obtain ⟨t, rfl, ht, hg2, HO⟩ := hrel
            by_cases hlt : t < k
            · obtain ⟨m, hm⟩ : ∃ m, m = (p + n - (t + 1)) % n := ⟨_, rfl⟩
              have hmn : m < n := by rw [hm]; exact Nat.mod_lt _ (by omega)
              have hmz : ((p : Int) - ((t : Int) + 1) + (n : Int)) % (n : Int) = (m : Int) := by rw [hm, Int.natCast_emod]; congr 1; omega
              have hc : wr.cell? ⟨b, off + m, none⟩ = some (.int .u64 (runA f n p t)) := by
                rw [HO.out.below.cell (p := ⟨b, off + m, none⟩) hb, HCS.out m hmn, hm]
                rfl
              have HS : Hid (upto (runA f n p) (t + 1) = upto (runA f n p) t ++ [runA f n p t]) := upto_succ _ _
              generalize runA f n p t = y at hc HS
              clear hm
              have hltz : (t : Int) + 1 ≤ (k : Int) := by omega
              have hmnz : (m : Int) < (n : Int) := by omega
              have hbn : wc.heap.size ≤ wr.heap.size := HO.out.size
              go_wp2_with (at_builtin; refine wpList_append_own_at _ rfl (.tmp 72) (.tmp 83) 26 rfl wc.heap.size 28 i0 (.int .u64 0) 1 8 Try.underlying26 hi0 hz0 hz1 hz2 rfl (by decide) u13 (k + t) ((upto (runC f n q) k ++ upto (runA f n p) t).map (Value.int .u64)) rfl (HO.out.own.alloc _) ⟨wr.heap.size, 0, none⟩ 1 1 [.int .u64 y] rfl rfl (cell_one_new _ _ _) (by simp [Value.oneCell']) (by unfold maxLen; omega) (by omega) (by simp; omega) ?_; intro v1 w4 hown2 hgrow2 _ hat2)
              have HO2 : Hid (OwnL wc.heap.size wc 28 v1 (k + (t + 1)) (upto (runC f n q) k ++ upto (runA f n p) (t + 1)) w4) := by
                have h := HO.out.push hown2 hgrow2 hat2
                rw [List.append_assoc, ← HS.out] at h
                exact h
              clear hown2 hgrow2 hat2 hc
              go_roundg (k - (t + 1))
              case measure => omega
              case rel => exact ⟨t + 1, by go_num, by omega, by omega, HO2⟩
            · obtain rfl : t = k := by omega
              have hltz : ¬ (t : Int) + 1 ≤ (t : Int) := by omega
              obtain ⟨g, c, cur, hv, hg3, hg4, hcur, h5, h6, h7⟩ := HO.out.shape
              subst hv
              have HN : Hid ((upto (runC f n q) t ++ upto (runA f n p) t).length = t + t) := HO.out.len
              have hS := sorts swoE g 0 c (upto (runC f n q) t ++ upto (runA f n p) t).toArray wr (holds_of_row hcur (by rw [HO.out.len]; exact h7)) hg4 (by simp [upto_length]; omega)
              have hsz : (upto (runC f n q) t ++ upto (runA f n p) t).toArray.size = t + t := by rw [List.size_toArray]; exact HN.out
              rw [hsz] at hS
              have HF : Hid (∀ w', Srtd wr g 0 (t + t) 0 (t + t) (upto (runC f n q) t ++ upto (runA f n p) t).toArray w' → LeafEnd (lsl x (upto f n) t) wc (.returned (.slice (some ⟨g, 0, none⟩) (t + t) c)) w') := fun w' h => leaf_out HO.out.below hg3 HN.out (fun s h1 h2 => HL.out s h1 (fun i j hi hj hij => Int.not_lt.1 (h2 i j hi hj hij))) h
              clear hcur h7 hsz HL HO HN
              generalize (upto (runC f n q) t ++ upto (runA f n p) t).toArray = D at hS HF
              go_wp2_with (go_at_call 11; refine hS.mono ?_; rintro e w5 ⟨rfl, HS⟩)
              go_ret
              exact HF.out _ HS.out
end Go.Proofs.Qxb6627769a
