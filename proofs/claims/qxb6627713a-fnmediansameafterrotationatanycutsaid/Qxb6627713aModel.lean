/-
  The law's own model of the median: an order statistic by counting.
-/
import Derived.Test.Qxb6627713aMedian2
namespace Go.Proofs.Qxb6627713a
open Go.RowKit
open Go.Sort (Holds SWO PermIn SortedIn)
set_option linter.unusedVariables false

/-- w, some draws on. -/
def Dn (w w' : World) : Prop := ∃ m, w' = w.drewN m
theorem Dn.draws {w w' : World} (h : Dn w w') (n : Nat) : Dn w (w'.drewN n) := by
  obtain ⟨m, rfl⟩ := h
  exact ⟨m + n, World.drewN_drewN _ _ _⟩
theorem Dn.refl (w : World) : Dn w w := ⟨0, rfl⟩
theorem Dn.cell {w w' : World} (h : Dn w w') {a : Addr} {v : Value} (hc : w.cell? a = some v) : w'.cell? a = some v := by
  obtain ⟨m, rfl⟩ := h
  exact hc
theorem Dn.below {w w' : World} (h : Dn w w') (B : Nat) : Below B w w' := by
  obtain ⟨m, rfl⟩ := h
  exact ⟨rfl, rfl, rfl, Nat.le_refl _, fun _ _ => rfl⟩
theorem Dn.trans {a b c : World} (h : Dn a b) (k : Dn b c) : Dn a c := by
  obtain ⟨m, rfl⟩ := k
  exact h.draws m

set_option maxHeartbeats 1000000 in
theorem lessTotal (x y : Nat) (w : World) : Calls Try.prog 14 #[.float .f64 x, .float .f64 y] w fun e w' => e = .returned (.bool (flt x y)) ∧ w' = w := by
  cases hx : fnan x
  · have hb : FloatKind.f64.format.order x x = some .eq := by
      unfold fnan at hx
      simpa using hx
    go_enter Try.func14, Try.ntmps14
    go_wp2
    go_ret
    refine ⟨?_, rfl⟩
    simp [flt, hx]
  · have hb : (FloatKind.f64.format.order x x != some .eq) = true := hx
    have ho : FloatKind.f64.format.order x y = none := by rw [order_rd]; exact order_nan _ _ (Or.inl ((fnan_iff x).1 hx))
    have hbn : ¬ FloatKind.f64.format.order x x = some .eq := by simpa using hb
    have HE : Hid (flt x y = (FloatKind.f64.format.order y y == some .eq)) := by
      show _ = _
      unfold flt
      rw [hx, ho]
      simp [fnan]
      rfl
    go_enter Try.func14, Try.ntmps14
    go_wp2
    go_ret
    exact ⟨by rw [HE.out]; rfl, rfl⟩

set_option maxHeartbeats 1000000 in
theorem sameFloat (x y : Nat) (w : World) : Calls Try.prog 7 #[.float .f64 x, .float .f64 y] w fun e w' => e = .returned (.bool (same x y)) ∧ w' = w := by
  cases hx : fnan x
  · have hb : FloatKind.f64.format.order x x = some .eq := by
      unfold fnan at hx
      simpa using hx
    go_enter Try.func7, Try.ntmps7
    go_wp2
    go_ret
    refine ⟨?_, rfl⟩
    simp [same, hx]
  · have hb : (FloatKind.f64.format.order x x != some .eq) = true := hx
    have hbn : ¬ FloatKind.f64.format.order x x = some .eq := by simpa using hb
    have HE : Hid (same x y = (FloatKind.f64.format.order y y != some .eq)) := by
      show _ = _
      unfold same
      rw [hx, if_pos rfl]
      rfl
    go_enter Try.func7, Try.ntmps7
    go_wp2
    go_ret
    exact ⟨by rw [HE.out]; rfl, rfl⟩

theorem cntP_yes {f : Nat → Nat} {p : Nat → Bool} {j : Nat} (h : p (f j) = true) : (upto f (j + 1)).countP p = (upto f j).countP p + 1 := by
  rw [upto_succ, List.countP_append]
  simp [h]
theorem cntP_no {f : Nat → Nat} {p : Nat → Bool} {j : Nat} (h : p (f j) = false) : (upto f (j + 1)).countP p = (upto f j).countP p := by
  rw [upto_succ, List.countP_append]
  simp [h]
theorem cntP_le (f : Nat → Nat) (p : Nat → Bool) (j : Nat) : (upto f j).countP p ≤ j := by
  refine Nat.le_trans List.countP_le_length ?_
  rw [upto_length]
  exact Nat.le_refl _

/-- Some element is the k-th. -/
theorem os_some (f : Nat → Nat) (len k : Nat) (hk : k < len) : ∃ i, i < len ∧ OS (upto f len) k (f i) := by
  obtain ⟨s, hp, hs⟩ : ∃ s : List Nat, s.Perm (upto f len) ∧ ∀ i j (hi : i < s.length) (hj : j < s.length), i < j → flt s[j] s[i] = false := by
    have h := Go.Sort.sort_sorts flt swoE (upto f len).toArray
    obtain ⟨hp, hs⟩ := h
    generalize Go.Sort.sort flt (upto f len).toArray = d at hp hs
    have hsz : d.size = len := by rw [hp.1]; simp [upto_length]
    refine ⟨d.toList, ?_, ?_⟩
    · have h3 := hp.2.2
      have e1 : d.extract 0 (upto f len).toArray.size = d := by
        rw [show (upto f len).toArray.size = d.size by rw [hsz]; simp [upto_length]]
        simp
      have e2 : (upto f len).toArray.extract 0 (upto f len).toArray.size = (upto f len).toArray := by simp
      rw [e1, e2] at h3
      simpa using h3
    · intro i j hi hj hij
      simp only [Array.length_toList] at hi hj
      have h3 := hs i j (Nat.zero_le _) hij (by simp [upto_length]; omega)
      rw [getElem!_pos d j hj, getElem!_pos d i hi] at h3
      simpa using h3
  have hsl : s.length = len := by rw [hp.length_eq, upto_length]
  have hos := (os_sorted s hs k (by omega)).perm hp
  have hm : s[k]'(by omega) ∈ upto f len := hp.mem_iff.1 (List.getElem_mem _)
  unfold upto at hm
  obtain ⟨i, hi, he⟩ := List.mem_map.1 hm
  refine ⟨i, List.mem_range.1 hi, ?_⟩
  rw [he]
  exact hos

def StatEnd (w : World) (l : List Nat) (k : Nat) (e : Ending) (w' : World) : Prop := ∃ v, e = .returned (.float .f64 v) ∧ OS l k v ∧ Dn w w'

set_option maxHeartbeats 4000000 in
theorem orderStat (b off len cap k : Nat) (f : Nat → Nat) (hreach : len ≤ 4096) (hk : k < len) (w : World) (hcs : ∀ j, j < len → w.cell? ⟨b, off + j, none⟩ = some (.float .f64 (f j))) :
    Calls Try.prog 11 #[.slice (some ⟨b, off, none⟩) len cap, .int .i64 (k : Int)] w fun e w' => StatEnd w (upto f len) k e w' := by
  have HCS : Hid (∀ j, j < len → w.cell? ⟨b, off + j, none⟩ = some (.float .f64 (f j))) := hcs
  clear hcs
  go_enter Try.func11, Try.ntmps11
  go_wp2
  go_loopg [6] (len + 1) (fun g v6 wr => ∃ i : Nat, v6 = .int .i64 (i : Int) ∧ i ≤ len ∧ len - i ≤ g ∧ Hid (Dn w wr) ∧ Hid (∀ i', i' < i → ¬ OS (upto f len) k (f i')))
  case atStart => exact ⟨0, by go_num, by omega, by omega, Dn.refl w, fun i' h => absurd h (Nat.not_lt_zero _)⟩
  case round =>
    obtain ⟨i, rfl, hi, hg, HD, HN⟩ := hrel
    by_cases hlt : i < len
    · go_wp2
      go_loopg [7, 8, 9] (len + 1) (fun g v7 v8 v9 wr => ∃ j c1 c2 : Nat, v9 = .int .i64 (j : Int) ∧ v7 = .int .i64 (c1 : Int) ∧ v8 = .int .i64 (c2 : Int) ∧ j ≤ len ∧ len - j ≤ g ∧ Hid ((upto f j).countP (fun x => flt x (f i)) = c1) ∧ Hid ((upto f j).countP (fun x => !flt (f i) x) = c2) ∧ Hid (Dn w wr))
      case atStart => exact ⟨0, 0, 0, by go_num, by go_num, by go_num, by omega, by omega, rfl, rfl, HD⟩
      case round =>
        clear HD
        obtain ⟨j, c1, c2, rfl, rfl, rfl, hj, hg2, HLT, HLE, HD⟩ := hrel
        have hc1 : c1 ≤ j := by rw [← HLT.out]; exact cntP_le _ _ _
        have hc2 : c2 ≤ j := by rw [← HLE.out]; exact cntP_le _ _ _
        by_cases hjl : j < len
        · have hcw : ∀ t, t < len → wr.cell? ⟨b, off + t, none⟩ = some (.float .f64 (f t)) := fun t ht => HD.out.cell (HCS.out t ht)
          go_wp2
          go_quiet (first | (go_at_call 14; refine Calls.quiet_of_same (lessTotal _ _ _)))
          have HD0 : Hid (Dn w (wr.drewN nq)) := HD.out.draws nq
          clear HD
          replace hcw : ∀ t, t < len → (wr.drewN nq).cell? ⟨b, off + t, none⟩ = some (.float .f64 (f t)) := hcw
          generalize wr.drewN nq = wr at HD0 hcw ⊢
          clear nq
          go_wp2
          · have h1 : flt (f j) (f i) = true := by assumption
            go_quiet (first | (go_at_call 14; refine Calls.quiet_of_same (lessTotal _ _ _)))
            have HD : Hid (Dn w (wr.drewN nq)) := HD0.out.draws nq
            clear HD0
            replace hcw : ∀ t, t < len → (wr.drewN nq).cell? ⟨b, off + t, none⟩ = some (.float .f64 (f t)) := hcw
            generalize wr.drewN nq = wr at HD hcw ⊢
            clear nq
            go_wp2
            · have h2 : flt (f i) (f j) = false := by simpa using (by assumption : (!flt (f i) (f j)) = true)
              go_roundg (len - (j + 1))
              case measure => omega
              case rel => exact ⟨j + 1, _, _, by go_num, rfl, rfl, by omega, by omega, by show _ = _; rw [cntP_yes (p := fun x => flt x (f i)) h1, HLT.out], by show _ = _; rw [cntP_yes (p := fun x => !flt (f i) x) (by rw [h2]; rfl), HLE.out], HD⟩
            · have h2 : flt (f i) (f j) = true := by simpa using (by assumption : (!flt (f i) (f j)) = false)
              go_roundg (len - (j + 1))
              case measure => omega
              case rel => exact ⟨j + 1, _, _, by go_num, rfl, rfl, by omega, by omega, by show _ = _; rw [cntP_yes (p := fun x => flt x (f i)) h1, HLT.out], by show _ = _; rw [cntP_no (p := fun x => !flt (f i) x) (by rw [h2]; rfl), HLE.out], HD⟩
          · have h1 : flt (f j) (f i) = false := by assumption
            go_quiet (first | (go_at_call 14; refine Calls.quiet_of_same (lessTotal _ _ _)))
            have HD : Hid (Dn w (wr.drewN nq)) := HD0.out.draws nq
            clear HD0
            replace hcw : ∀ t, t < len → (wr.drewN nq).cell? ⟨b, off + t, none⟩ = some (.float .f64 (f t)) := hcw
            generalize wr.drewN nq = wr at HD hcw ⊢
            clear nq
            go_wp2
            · have h2 : flt (f i) (f j) = false := by simpa using (by assumption : (!flt (f i) (f j)) = true)
              go_roundg (len - (j + 1))
              case measure => omega
              case rel => exact ⟨j + 1, _, _, by go_num, rfl, rfl, by omega, by omega, by show _ = _; rw [cntP_no (p := fun x => flt x (f i)) h1, HLT.out], by show _ = _; rw [cntP_yes (p := fun x => !flt (f i) x) (by rw [h2]; rfl), HLE.out], HD⟩
            · have h2 : flt (f i) (f j) = true := by simpa using (by assumption : (!flt (f i) (f j)) = false)
              go_roundg (len - (j + 1))
              case measure => omega
              case rel => exact ⟨j + 1, _, _, by go_num, rfl, rfl, by omega, by omega, by show _ = _; rw [cntP_no (p := fun x => flt x (f i)) h1, HLT.out], by show _ = _; rw [cntP_no (p := fun x => !flt (f i) x) (by rw [h2]; rfl), HLE.out], HD⟩
        · obtain rfl : j = len := by omega
          have HOS : Hid ((c1 ≤ k ∧ k < c2) ↔ OS (upto f j) k (f i)) := by
            show _ ↔ _
            unfold OS
            rw [HLT.out, HLE.out]
          by_cases hin : c1 ≤ k ∧ k < c2
          · obtain ⟨hz1, hz2⟩ := hin
            have hz1z : (c1 : Int) ≤ (k : Int) := by omega
            have hz2z : (k : Int) < (c2 : Int) := by omega
            have hci : wr.cell? ⟨b, off + i, none⟩ = some (.float .f64 (f i)) := HD.out.cell (HCS.out i hlt)
            go_wp2
            go_ret
            exact ⟨f i, rfl, HOS.out.1 ⟨hz1, hz2⟩, HD.out⟩
          · have HN2 : Hid (∀ i', i' < i + 1 → ¬ OS (upto f j) k (f i')) := fun i' h' => by
              rcases Nat.lt_or_ge i' i with h | h
              · exact HN.out i' h
              · obtain rfl : i' = i := by omega
                exact fun h => hin (HOS.out.2 h)
            by_cases hz1 : c1 ≤ k
            · have hz2 : ¬ k < c2 := fun h => hin ⟨hz1, h⟩
              have hz1z : (c1 : Int) ≤ (k : Int) := by omega
              have hz2z : ¬ (k : Int) < (c2 : Int) := by omega
              clear hin
              go_wp2
              go_roundg (j - (i + 1))
              case measure => omega
              case rel => exact ⟨i + 1, by go_num, by omega, by omega, HD, HN2⟩
            · have hz1z : ¬ (c1 : Int) ≤ (k : Int) := by omega
              clear hin
              go_wp2
              go_roundg (j - (i + 1))
              case measure => omega
              case rel => exact ⟨i + 1, by go_num, by omega, by omega, HD, HN2⟩
    · exfalso
      obtain ⟨i', h1, h2⟩ := os_some f len k hk
      exact HN.out i' (by omega) h2
end Go.Proofs.Qxb6627713a
