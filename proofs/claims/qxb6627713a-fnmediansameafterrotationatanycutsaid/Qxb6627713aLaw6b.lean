/-
  The second law's function, its long way.
-/
import Derived.Test.Qxb6627713aLaw6
namespace Go.Proofs.Qxb6627713a
open Go.RowKit
set_option linter.unusedVariables false

theorem rot_own {w : World} {base : Nat} {v : Value} {N n : Nat} {l : List Value} (h : w.ownsRow base 24 1 v N l) (hN : N = n) (h0 : 0 < n) :
    ∃ g c, v = .slice (some ⟨g, 0, none⟩) n c ∧ base ≤ g ∧ g < w.heap.size ∧ ∀ j x, l[j]? = some x → w.cell? ⟨g, 0 + j, none⟩ = some x := by
  subst hN
  rcases h.2 with ⟨_, hz⟩ | ⟨g, c, cur, rfl, hb, hcur, h1, h2, h3, h4⟩
  · omega
  · refine ⟨g, c, rfl, hb, (Array.getElem?_eq_some_iff.1 hcur).1, fun j x hx => ?_⟩
    have hj : j < l.length := (List.getElem?_eq_some_iff.1 hx).1
    rw [h.1] at hj
    rw [← h4, List.getElem?_take_of_lt (by omega)] at hx
    simp only [World.cell?, hcur, Nat.zero_add]
    simp only [Option.isSome_none, Bool.false_eq_true, if_false]
    rw [← Array.getElem?_toList]
    exact hx

/-- What the tail is told: the copy at g0 and the turned list at g2. -/
def Both (w : World) (f : Nat → Nat) (n i g2 : Nat) (w5 : World) : Prop :=
  w.heap.size < w5.heap.size ∧ g2 < w5.heap.size ∧ Below w.heap.size w w5 ∧ (∀ j, j < n → w5.cell? ⟨w.heap.size, 0 + j, none⟩ = some (.float .f64 (f j))) ∧ ∀ j, j < n → w5.cell? ⟨g2, 0 + j, none⟩ = some (.float .f64 (rotF f n i j))

theorem rot_get (f : Nat → Nat) (n i j : Nat) (hi : i ≤ n) (hj : j < n) : (((upto f n).drop i).map (Value.float .f64) ++ ((upto f n).take i).map (Value.float .f64))[j]? = some (.float .f64 (rotF f n i j)) := by
  have hlen : ((upto f n).drop i ++ (upto f n).take i).length = n := by simp [upto_length]; omega
  rw [← List.map_append, List.getElem?_map, List.getElem?_eq_getElem (by omega)]
  unfold rotF
  rw [getElem!_pos _ j (by omega)]
  rfl

theorem drop_cell {w : World} {g n i : Nat} {f : Nat → Nat} (hc : ∀ j, j < n → w.cell? ⟨g, 0 + j, none⟩ = some (.float .f64 (f j))) (hi : i ≤ n) (j : Nat) (x : Value) (hx : (((upto f n).drop i).map (Value.float .f64))[j]? = some x) : w.cell? (Addr.add ⟨g, i, none⟩ j) = some x := by
  have hj : j < n - i := by
    have := (List.getElem?_eq_some_iff.1 hx).1
    simpa [upto_length] using this
  have h1 := hc (i + j) (by omega)
  rw [Nat.zero_add] at h1
  rw [Addr.add_lit, h1, ← hx]
  simp [upto, show i + j < n by omega]

theorem take_cell {w : World} {g n i : Nat} {f : Nat → Nat} (hc : ∀ j, j < n → w.cell? ⟨g, 0 + j, none⟩ = some (.float .f64 (f j))) (hi : i ≤ n) (j : Nat) (x : Value) (hx : (((upto f n).take i).map (Value.float .f64))[j]? = some x) : w.cell? (Addr.add ⟨g, 0, none⟩ j) = some x := by
  have hj : j < i := by
    have := (List.getElem?_eq_some_iff.1 hx).1
    simp [upto_length] at this
    omega
  have h1 := hc j (by omega)
  rw [Addr.add_lit, h1, ← hx]
  rw [List.getElem?_map, List.getElem?_take_of_lt hj]
  simp [upto, show j < n by omega]

theorem floats_one (l : List Nat) : ∀ u ∈ l.map (Value.float .f64), u.oneCell' = true := fun u hu => by
  obtain ⟨x, _, rfl⟩ := List.mem_map.1 hu
  rfl

set_option maxHeartbeats 4000000 in
theorem law6 (b off n cap i : Nat) (f : Nat → Nat) (w : World) (hn : n ≤ 4096) (h0 : 0 < n) (hi : i ≤ n) (hcs : ∀ j, j < n → w.cell? ⟨b, off + j, none⟩ = some (.float .f64 (f j))) (hb : b < w.heap.size) :
    Calls Try.prog 4 #[.slice (some ⟨b, off, none⟩) n cap, .int .i64 (i : Int)] w fun e w' => e = .returned (.bool true) ∧ Hid (Below w.heap.size w w') := by
  have hB := bytes9 (some ⟨b, off, none⟩) n cap (i : Int)
  rw [decide_eq_true (by omega)] at hB
  have hmk := fun W : World => run_make_row' (P := Try.prog) 22 24 (.float .f64 0) 8 Try.underlying22 info24 rfl .i64 .i64 n (by omega) (by omega) W
  have hz1 : ¬ (4096 : Int) < (n : Int) := by omega
  have hz2 : ((n : Int) == 0) = false := beq_false_of_ne (by omega)
  have hz3 : ¬ ((n : Int) = 0) := by omega
  have hz4 : decide ((i : Int) < 0) = false := decide_eq_false (by omega)
  have hz5 : ¬ (n : Int) < (i : Int) := by omega
  obtain ⟨L, w2, hLa, hcp, hB2, hsz2, hc2⟩ := copied b off n cap f w hcs hb
  rw [hLa] at hmk
  have HB2 : Hid (Below w.heap.size w w2) := hB2
  have HC2 : Hid (∀ j, j < n → w2.cell? ⟨w.heap.size, 0 + j, none⟩ = some (.float .f64 (f j))) := hc2
  have HSZ : Hid (w2.heap.size = w.heap.size + 1) := hsz2
  clear hcs hLa hB2 hc2 hsz2
  obtain ⟨i0, hi0, hy0, hy1, hy2⟩ := info_parts info24
  go_enter Try.func4, Try.ntmps4
  go_upto_region 13 with (first | (go_at_call 9; refine (hB _).mono ?_; rintro e w' ⟨rfl, hw⟩; subst w'))
  clear hcp hmk hB
  go_upto_region 14 with (at_make; refine wpList_make_own _ rfl (.const (.int .i64 0)) (.tmp 37) 22 rfl w2.heap.size 24 i0 (.float .f64 0) 1 Try.underlying22 hi0 hy0 hy1 .i64 .i64 n n rfl rfl rfl (by rw [hy2]; omega) (by unfold maxLen; omega) (Nat.le_refl _) ?_; intro w3 hown1 hgrow1)
  have HC3 : Hid (∀ j, j < n → w3.cell? ⟨w.heap.size, 0 + j, none⟩ = some (.float .f64 (f j))) := fun j hj => hgrow1.cell (HC2.out j hj) (by simp)
  have HB3 : Hid (Below w.heap.size w w3) := HB2.out.grown hgrow1 HB2.out.size (fun k e => by cases e)
  have HS3 : Hid (w2.heap.size ≤ w3.heap.size) := hgrow1.size
  by_cases hin : i < n
  · have hinz : (i : Int) < (n : Int) := by omega
    go_upto_region 15 with (at_builtin; refine wpList_append_own_at _ rfl (.tmp 39) (.tmp 42) 22 rfl w2.heap.size 24 i0 (.float .f64 0) 1 8 Try.underlying22 hi0 hy0 hy1 hy2 rfl (by decide) _ 0 [] rfl hown1 ⟨w.heap.size, i, none⟩ (n - i) (n - i) (((upto f n).drop i).map (Value.float .f64)) rfl (by simp [upto_length]) (drop_cell HC3.out hi) (floats_one _) (by unfold maxLen; omega) (by omega) HS3.out ?_; intro v' w4 hown2 hgrow2 _ _; obtain ⟨g1, c1', rfl, hg1, hg1l, _⟩ := rot_own hown2 (show 0 + (n - i) = n - i by omega) (by omega))
    have HC4 : Hid (∀ j, j < n → w4.cell? ⟨w.heap.size, 0 + j, none⟩ = some (.float .f64 (f j))) := fun j hj => hgrow2.cell (HC3.out j hj) (by intro e; injection e with e; have := HSZ.out; simp at e; omega)
    have HB4 : Hid (Below w.heap.size w w4) := HB3.out.grown hgrow2 HB3.out.size (fun k e => by have h9 := HSZ.out; have e2 : w2.heap.size = k := Option.some.inj e; omega)
    have HS4 : Hid (w2.heap.size ≤ w4.heap.size) := Nat.le_trans HS3.out hgrow2.size
    clear hgrow2 hgrow1 hown1 HC3 HC2
    go_upto_region 16 with (at_builtin; refine wpList_append_own_at _ rfl (.tmp 44) (.tmp 47) 22 rfl w2.heap.size 24 i0 (.float .f64 0) 1 8 Try.underlying22 hi0 hy0 hy1 hy2 rfl (by decide) _ (0 + (n - i)) _ rfl hown2 ⟨w.heap.size, 0, none⟩ i n (((upto f n).take i).map (Value.float .f64)) rfl (by simp [upto_length]; omega) (take_cell HC4.out hi) (floats_one _) (by unfold maxLen; omega) (by omega) HS4.out ?_; intro v'' w5 hown3 hgrow3 _ _; obtain ⟨g2, c2', rfl, hg2, hg2l, hcell⟩ := rot_own hown3 (show 0 + (n - i) + i = n by omega) h0)
    have HBO : Hid (Both w f n i g2 w5) := ⟨by have := HSZ.out; have := hgrow3.size; have := HS4.out; omega, hg2l, HB4.out.grown hgrow3 HB4.out.size (fun k e => by have h9 := HSZ.out; have e2 : g1 = k := Option.some.inj e; omega), fun j hj => hgrow3.cell (HC4.out j hj) (by intro e; injection e with e; have := HSZ.out; simp at e; omega), fun j hj => hcell j _ (by rw [List.nil_append]; exact rot_get f n i j hi hj)⟩
    clear hown2 hown3 hgrow3 hcell HC4
    obtain ⟨p1, p2, p3, p4, p5⟩ := HBO.out
    have c1 := zzmedian w.heap.size 0 n n f hn h0 w5 p1 p4
    go_upto_region 17 with (first | (go_at_call 6; refine c1.mono ?_; rintro e w6 ⟨r, rfl, hm1, hb1⟩))
    have HM1 : Hid (Med (upto f n) r) := hm1
    have HB6 : Hid (Below w5.heap.size w5 w6) := hb1
    have c2 := zzmedian g2 0 n c2' (rotF f n i) hn h0 w6 (Nat.lt_of_lt_of_le p2 hb1.size) (fun j hj => (hb1.cell (p := ⟨g2, 0 + j, none⟩) p2).trans (p5 j hj))
    clear c1 hm1 hb1
    go_upto_region 18 with (first | (go_at_call 6; refine c2.mono ?_; rintro e w7 ⟨s, rfl, hm2, hb2⟩))
    have HM2 : Hid (Med (upto (rotF f n i) n) s) := hm2
    have HB7 : Hid (Below w6.heap.size w6 w7) := hb2
    have h57 : Below w5.heap.size w5 w7 := HB6.out.trans (hb2.mono HB6.out.size)
    have H57 : Hid (Below w5.heap.size w5 w7) := h57
    have c3 := model g2 0 n c2' (rotF f n i) hn h0 w7 (fun j hj => (h57.cell (p := ⟨g2, 0 + j, none⟩) p2).trans (p5 j hj))
    have c4 := sameFloat s r w7
    rw [med_same HM2.out (HM1.out.perm (rot_perm f n i hi).symm)] at c4
    clear c2 hm2 hb2 h57 p4 p5
    go_wp2_with (first
      | (go_at_call_of 7 (Value.float FloatKind.f64 s); refine c4.mono ?_; clear c4; rintro e w8 ⟨rfl, hw8⟩; subst w8)
      | (go_at_call 8; refine c3.mono ?_; clear c3; rintro e w9 ⟨t, rfl, hm3, hb3⟩))
    have c5 := sameFloat r t w9
    rw [med_same (HM1.out.perm (rot_perm f n i hi).symm) hm3] at c5
    refine c5.mono ?_
    rintro e w10 ⟨rfl, hw10⟩
    subst w10
    have HB9 : Hid (Below w.heap.size w w9) := (p3.trans (H57.out.mono (Nat.le_of_lt p1))).trans (hb3.mono (Nat.le_trans (Nat.le_of_lt p1) H57.out.size))
    clear c5 hm3 hb3
    go_wp2
    go_ret
    exact ⟨rfl, HB9⟩
  · obtain rfl : i = n := by omega
    go_upto_region 15 with fail
    clear hgrow1
    go_upto_region 16 with (at_builtin; refine wpList_append_own_at _ rfl (.tmp 44) (.tmp 47) 22 rfl w2.heap.size 24 i0 (.float .f64 0) 1 8 Try.underlying22 hi0 hy0 hy1 hy2 rfl (by decide) _ 0 [] rfl hown1 ⟨w.heap.size, 0, none⟩ i i (((upto f i).take i).map (Value.float .f64)) rfl (by simp [upto_length]) (take_cell HC3.out hi) (floats_one _) (by unfold maxLen; omega) (by omega) HS3.out ?_; intro v'' w5 hown3 hgrow3 _ _; obtain ⟨g2, c2', rfl, hg2, hg2l, hcell⟩ := rot_own hown3 (show 0 + i = i by omega) h0)
    have HBO : Hid (Both w f i i g2 w5) := ⟨by have := HSZ.out; have := hgrow3.size; have := HS3.out; omega, hg2l, HB3.out.grown hgrow3 HB3.out.size (fun k e => by have h9 := HSZ.out; have e2 : w2.heap.size = k := Option.some.inj e; omega), fun j hj => hgrow3.cell (HC3.out j hj) (by intro e; injection e with e; have := HSZ.out; simp at e; omega), fun j hj => hcell j _ (by
      have h := rot_get f i i j hi hj
      rw [List.drop_eq_nil_of_le (by rw [upto_length]; exact Nat.le_refl _)] at h
      simpa using h)⟩
    clear hown1 hown3 hgrow3 hcell HC3
    obtain ⟨p1, p2, p3, p4, p5⟩ := HBO.out
    have c1 := zzmedian w.heap.size 0 i i f hn h0 w5 p1 p4
    go_upto_region 17 with (first | (go_at_call 6; refine c1.mono ?_; rintro e w6 ⟨r, rfl, hm1, hb1⟩))
    have HM1 : Hid (Med (upto f i) r) := hm1
    have HB6 : Hid (Below w5.heap.size w5 w6) := hb1
    have c2 := zzmedian g2 0 i c2' (rotF f i i) hn h0 w6 (Nat.lt_of_lt_of_le p2 hb1.size) (fun j hj => (hb1.cell (p := ⟨g2, 0 + j, none⟩) p2).trans (p5 j hj))
    clear c1 hm1 hb1
    go_upto_region 18 with (first | (go_at_call 6; refine c2.mono ?_; rintro e w7 ⟨s, rfl, hm2, hb2⟩))
    have HM2 : Hid (Med (upto (rotF f i i) i) s) := hm2
    have HB7 : Hid (Below w6.heap.size w6 w7) := hb2
    have h57 : Below w5.heap.size w5 w7 := HB6.out.trans (hb2.mono HB6.out.size)
    have H57 : Hid (Below w5.heap.size w5 w7) := h57
    have c3 := model g2 0 i c2' (rotF f i i) hn h0 w7 (fun j hj => (h57.cell (p := ⟨g2, 0 + j, none⟩) p2).trans (p5 j hj))
    have c4 := sameFloat s r w7
    rw [med_same HM2.out (HM1.out.perm (rot_perm f i i hi).symm)] at c4
    clear c2 hm2 hb2 h57 p4 p5
    go_wp2_with (first
      | (go_at_call_of 7 (Value.float FloatKind.f64 s); refine c4.mono ?_; clear c4; rintro e w8 ⟨rfl, hw8⟩; subst w8)
      | (go_at_call 8; refine c3.mono ?_; clear c3; rintro e w9 ⟨t, rfl, hm3, hb3⟩))
    have c5 := sameFloat r t w9
    rw [med_same (HM1.out.perm (rot_perm f i i hi).symm) hm3] at c5
    refine c5.mono ?_
    rintro e w10 ⟨rfl, hw10⟩
    subst w10
    have HB9 : Hid (Below w.heap.size w w9) := (p3.trans (H57.out.mono (Nat.le_of_lt p1))).trans (hb3.mono (Nat.le_trans (Nat.le_of_lt p1) H57.out.size))
    clear c5 hm3 hb3
    go_wp2
    go_ret
    exact ⟨rfl, HB9⟩
end Go.Proofs.Qxb6627713a
