import Derived.Test.Qxb6627646aGrown
import Derived.Test.Qxb6627646aSize
namespace Go.Proofs.Qxb6627646a
open Go.RowKit Go.Deep
set_option linter.unusedVariables false

/-- The rows' values, by the index. -/
theorem rows_fn {w : World} {B : Nat} {v : Value} {xss : List (List Int)} (h : IntRows w B v xss) : ∃ ao cap, ∃ U : Nat → Value, v = .slice ao xss.length cap ∧
    ∀ k, k < xss.length → ∃ b off, ao = some ⟨b, off, none⟩ ∧ b < B ∧ w.cell? ⟨b, off + k, none⟩ = some (U k) ∧ IntRow w B (U k) (xss.getD k []) := by
  obtain ⟨ao, cap, hv, hc⟩ := h
  cases ao with
  | none =>
    refine ⟨none, cap, fun _ => .slice none 0 0, hv, fun k hk => ?_⟩
    obtain ⟨b, off, u, h1, _⟩ := hc k hk
    cases h1
  | some a =>
    refine ⟨some a, cap, fun k => (w.cell? ⟨a.block, a.off + k, none⟩).getD (.slice none 0 0), hv, fun k hk => ?_⟩
    obtain ⟨b, off, u, h1, h2, h3, h4⟩ := hc k hk
    cases h1
    exact ⟨b, off, rfl, h2, by simp only [h3, Option.getD_some], by simp only [h3, Option.getD_some]; exact h4⟩

theorem rows_mono {n : Nat} {xss : List (List Int)} {ys : List Int} (h : rowsInRange (n : Int) xss = true) (hy : inRange (n : Int) ys = true) : rowsInRange ((n + 1 : Nat) : Int) (xss ++ [ys]) = true := by
  have up : ∀ l, inRange (n : Int) l = true → inRange ((n + 1 : Nat) : Int) l = true := by
    intro l hl
    refine List.all_eq_true.2 fun x hx => ?_
    have := List.all_eq_true.1 hl x hx
    simp only [Bool.and_eq_true, decide_eq_true_eq] at this ⊢
    omega
  refine List.all_eq_true.2 fun l hl => ?_
  rcases List.mem_append.1 hl with hl | hl
  · exact up l (List.all_eq_true.1 h l hl)
  · rw [List.mem_singleton.1 hl]; exact up ys hy

/-- The grown graph's rows when k of them are copied. -/
def copied (U : Nat → Value) (k : Nat) : Nat → Value := fun j => if j < k then U j else .slice none 0 0

theorem lens_grown {xs : List (List Int)} {zs : List Int} (h : ∀ k, (xs.getD k []).length ≤ maxLen) (hz : zs.length ≤ maxLen) : ∀ k, ((xs ++ [zs]).getD k []).length ≤ maxLen := by
  intro k
  by_cases hk : k < xs.length
  · have e : (xs ++ [zs]).getD k [] = xs.getD k [] := by simp [List.getD, List.getElem?_append, hk]
    rw [e]; exact h k
  · by_cases hk2 : k = xs.length
    · subst hk2
      have e : (xs ++ [zs]).getD xs.length [] = zs := by simp [List.getD]
      rw [e]; exact hz
    · have e : (xs ++ [zs]).getD k [] = [] := by
        rw [List.getD, List.getElem?_eq_none (by simp; omega)]; rfl
      rw [e]; unfold maxLen; simp

/-- The grown graph, read. -/
theorem rows_grown {w : World} {G n : Nat} {U : Nat → Value} {xs : List (List Int)} {zs : List Int} {v3 : Value} (hl : xs.length = n) (hG : G < w.heap.size)
    (hrow : w.rowIs G 29 (n + 1) (fun j => if j = n then v3 else copied U n j)) (hU : ∀ k, k < n → IntRow w w.heap.size (U k) (xs.getD k [])) (hz : IntRow w w.heap.size v3 zs) :
    IntRows w w.heap.size (.slice (some ⟨G, 0, none⟩) (n + 1) (n + 1)) (xs ++ [zs]) := by
  subst hl
  refine ⟨some ⟨G, 0, none⟩, xs.length + 1, by simp, fun k hk => ?_⟩
  have hk' : k < xs.length + 1 := by simpa using hk
  have hc := hrow.cell hk'
  by_cases e : k = xs.length
  · subst e
    refine ⟨G, 0, v3, rfl, hG, ?_, ?_⟩
    · rw [Nat.zero_add, hc]; simp
    · have e : (xs ++ [zs]).getD xs.length [] = zs := by simp [List.getD]
      rw [e]; exact hz
  · have hlt : k < xs.length := by omega
    refine ⟨G, 0, U k, rfl, hG, ?_, ?_⟩
    · rw [Nat.zero_add, hc]; simp [e, copied, hlt]
    · have e : (xs ++ [zs]).getD k [] = xs.getD k [] := by simp [List.getD, List.getElem?_append, hlt]
      rw [e]; exact hU k hlt

theorem IntRow.drewN {w : World} {B : Nat} {v : Value} {xs : List Int} (h : IntRow w B v xs) (q : Nat) : IntRow (w.drewN q) B v xs := h

theorem intRow_take {w : World} {B k cap : Nat} {ao : Option Addr} {l : List Nat} {x : Nat} (hk : l.length = k) (h : IntRow w B (.slice ao (k + 1) cap) (ints (l ++ [x]))) :
    IntRow w B (.slice ao k cap) (ints l) ∧ ∃ b off, ao = some ⟨b, off, none⟩ ∧ w.cell? ⟨b, off + k, none⟩ = some (.int .i64 (x : Int)) := by
  subst hk
  obtain ⟨ao', cap', hv, hc⟩ := h
  have hl : (ints (l ++ [x])).length = l.length + 1 := by simp [ints]
  rw [hl] at hv hc
  injection hv with e1 _ e3
  subst e1; subst e3
  refine ⟨⟨ao, cap, by simp [ints], fun j hj => ?_⟩, ?_⟩
  · have hj' : j < l.length := by simpa [ints] using hj
    obtain ⟨b, off, h1, h2, h3⟩ := hc j (by omega)
    refine ⟨b, off, h1, h2, ?_⟩
    rw [h3]
    simp [ints, List.getD, List.getElem?_append, hj']
  · obtain ⟨b, off, h1, h2, h3⟩ := hc l.length (by omega)
    refine ⟨b, off, h1, ?_⟩
    rw [h3]
    simp [ints, List.getD]

set_option maxHeartbeats 1000000 in
set_option maxRecDepth 100000 in
theorem law1_walk (mo : Option Nat) (v1 v2 v3 : Value) (m : Nat) (xs ys : List (List Int)) (zs : List Int) (w : World)
    (hm : ∀ ty, (Builtin.len_ #[22] ty #[.map mo]).run Try.prog w = .ok (.int .i64 m) w) (h1 : IntRows w w.heap.size v1 xs) (h2 : IntRows w w.heap.size v2 ys) (h3 : IntRow w w.heap.size v3 zs)
    (l1 : xs.length ≤ maxLen) (l2 : ys.length ≤ maxLen) (l3 : zs.length ≤ maxLen) (l1' : ∀ k, (xs.getD k []).length ≤ maxLen) (l2' : ∀ k, (ys.getD k []).length ≤ maxLen) :
    Calls Try.prog 4 #[.map mo, v1, v2, v3] w fun e w' => e = .returned (.bool true) ∧ Below w.heap.size w w' := by
  have hsize := sizeOK_core (.map mo) v1 v2 v3 m xs ys zs w.heap.size w hm h1 h2 h3 l1 l2 l3 l1' l2'
  have HM : Hid (∀ ty, (Builtin.len_ #[22] ty #[.map mo]).run Try.prog w = .ok (.int .i64 m) w) := hm
  have H1 : Hid (IntRows w w.heap.size v1 xs) := h1
  have H3 : Hid (IntRow w w.heap.size v3 zs) := h3
  have L1' : Hid (∀ k, (xs.getD k []).length ≤ maxLen) := l1'
  have hl1 := l1
  have hl3 := l3
  unfold maxLen at hl1 hl3
  obtain ⟨n, hn⟩ : ∃ n, n = xs.length := ⟨_, rfl⟩
  have HN : Hid (xs.length = n) := hn.symm
  obtain ⟨ao, cap, U, hv1, hU⟩ := rows_fn h1
  obtain ⟨eo, ecap, hv3, _⟩ := h3
  obtain ⟨yo, ycap, hv2, _⟩ := h2
  subst hv2
  subst hv1
  subst hv3
  rw [← hn]
  rw [← hn] at hsize H1 hU hl1
  have HU : Hid (∀ k, k < n → ∃ b off, ao = some ⟨b, off, none⟩ ∧ b < w.heap.size ∧ w.cell? ⟨b, off + k, none⟩ = some (U k) ∧ IntRow w w.heap.size (U k) (xs.getD k [])) := hU
  have hrir := rowsInRange_any (.slice ao n cap) xs n w.heap.size w H1.out l1 l1'
  have hzir := rowInRange_any (.slice eo zs.length ecap) zs n w.heap.size w H3.out l3
  clear hm h1 l1 l2 l1' l2' hU hn
  obtain ⟨r1, hr1⟩ : ∃ r1, r1 = rowsInRange (n : Int) xs := ⟨_, rfl⟩
  obtain ⟨r2, hr2⟩ : ∃ r2, r2 = inRange (n : Int) zs := ⟨_, rfl⟩
  rw [← hr1] at hrir
  rw [← hr2] at hzir
  have HR1 : Hid (r1 = rowsInRange (n : Int) xs) := hr1
  have HR2 : Hid (r2 = inRange (n : Int) zs) := hr2
  clear hr1 hr2
  go_enter Try.func4, Try.ntmps4
  go_wp2_with (go_at_call 5; refine hsize.mono ?_; rintro e w' ⟨⟨r, rfl, hsz⟩, hw⟩; subst w')
  · go_ret
    exact ⟨rfl, Below.refl _ _⟩
  have hrt : r = true := by simpa using ‹(!r) = false›
  obtain ⟨hn, _, _⟩ := hsz hrt
  rw [HN.out] at hn
  clear hsize hrt hsz
  cases r1 with
  | false =>
    go_wp2_with (first | (go_at_call 6; refine hrir.mono ?_; rintro e w' ⟨rfl, hw⟩; subst w'))
    go_ret
    exact ⟨rfl, Below.refl _ _⟩
  | true =>
  cases r2 with
  | false =>
    go_wp2_with (first | (go_at_call 6; refine hrir.mono ?_; rintro e w' ⟨rfl, hw⟩; subst w') | (go_at_call 12; refine hzir.mono ?_; rintro e w' ⟨rfl, hw⟩; subst w'))
    go_ret
    exact ⟨rfl, Below.refl _ _⟩
  | true =>
    have hord := fun o => order_any (.map mo) (.slice ao n cap) (.slice yo ys.length ycap) xs n (w.alloc o) (by omega) HN.out HR1.out.symm L1'.out ((H1.out.below ((Below.refl _ _).alloc (Nat.le_refl _) o)).mono (by simp))
    go_upto_region 8 with (first | (go_at_call 6; refine hrir.mono ?_; rintro e w' ⟨rfl, hw⟩; subst w') | (go_at_call 12; refine hzir.mono ?_; rintro e w' ⟨rfl, hw⟩; subst w') | (go_at_call 8; refine (hord _).mono ?_; rintro e w1 ⟨bo, bcap, rfl, hb1, hb2, hbr, hbb⟩))
    have hbw : Below w.heap.size w w1 := ((Below.refl _ _).alloc (Nat.le_refl _) _).trans (hbb.mono (by simp))
    have hw1 : w.heap.size ≤ w1.heap.size := hbw.size
    have hol : (orderL xs n).length = n := (roots_all n (graphOf xs) (graph_lt HR1.out.symm)).2.2
    rw [hol] at hb1 hbr
    rw [hol]
    have HOL : Hid ((orderL xs n).length = n) := hol
    have HBR : Hid (IntRow w1 w1.heap.size (.slice bo n bcap) (ints (orderL xs n))) := hbr
    have HBW : Hid (Below w.heap.size w w1) := hbw
    have hmk : ∀ W : World, (Instr.makeSlice 23 (.int .i64 ((n : Int) + 1)) (.int .i64 ((n : Int) + 1))).run Try.prog W = .ok (.slice (some ⟨W.heap.size, 0, none⟩) (n + 1) (n + 1)) (W.alloc (.cells (madeCells #[.slice none 0 0] (n + 1)) 29)) :=
      run_make_row' (P := Try.prog) 23 29 (.slice none 0 0) 24 Try.underlying23 Try.info29 rfl .i64 .i64 (n + 1) (by omega) (by omega)
    clear hord hrir hzir hbr hbb hbw hol
    go_wp2
    clear hmk
    go_loopw [13] (fun c wr => ∃ k : Nat, k ≤ n ∧ c = .int .i64 k ∧ wr.rowIs w1.heap.size 29 (n + 1) (copied U k) ∧ Below w1.heap.size w1 wr) (fun c _ => n - (intOf c).toNat)
    case atStart => exact ⟨0, Nat.zero_le _, rfl, (World.rowIs_made w1 _ (n + 1) 29).congr (fun j _ => by simp [copied]), (Below.refl _ _).alloc (Nat.le_refl _) _⟩
    case round =>
      obtain ⟨k, hk, rfl, hrow, hbr⟩ := hrel
      have HROW : Hid (wr.rowIs w1.heap.size 29 (n + 1) (copied U k)) := hrow
      have HB : Hid (Below w1.heap.size w1 wr) := hbr
      by_cases hlt : k < n
      · obtain ⟨b, off, hao, hbB, hcu, hur⟩ := HU.out k hlt
        subst hao
        obtain ⟨uo, ucap, hus, _⟩ := hur
        have hcu' : wr.cell? ⟨b, off + k, none⟩ = some (U k) := (hbr.cell (p := ⟨b, off + k, none⟩) (by show b < w1.heap.size; omega)).trans ((HBW.out.cell (p := ⟨b, off + k, none⟩) hbB).trans hcu)
        rw [hus] at hcu'
        have HUS : Hid (U k = .slice uo (xs.getD k []).length ucap) := hus
        have cg := hrow.cell (i := k) (by omega)
        have fg := hrow.frozen k
        clear hrow hbr hcu hus
        go_wp2
        go_roundw
        case rel =>
          refine ⟨k + 1, by omega, by go_num, (HROW.out.set k _).congr (fun j _ => ?_), HB.out.setCell (Nat.le_refl _) _⟩
          by_cases e : j = k
          · simp only [e, if_true, copied, Nat.lt_succ_self]; exact HUS.out.symm
          · by_cases h1 : j < k
            · simp [e, copied, h1, show j < k + 1 by omega]
            · simp [e, copied, h1, show ¬ j < k + 1 by omega]
        case measure => simp [intOf]; omega
      · have hkn : k = n := by omega
        subst hkn
        have cg := hrow.cell (i := k) (by omega)
        have fg := hrow.frozen k
        clear hrow hbr
        go_upto_region 15 with fail
        obtain ⟨o4, ho4⟩ : ∃ o4, o4 = Obj.cells #[.map mo, .slice (some ⟨w1.heap.size, 0, none⟩) (k + 1) (k + 1), .slice yo ys.length ycap] 28 := ⟨_, rfl⟩
        have hB3 : Below w1.heap.size w1 ((wr.setCell ⟨w1.heap.size, k, none⟩ (.slice eo zs.length ecap)).alloc o4) := (HB.out.setCell (Nat.le_refl _) _).alloc (by rw [set_size]; exact HB.out.size) _
        have hB4 : Below w.heap.size w ((wr.setCell ⟨w1.heap.size, k, none⟩ (.slice eo zs.length ecap)).alloc o4) := HBW.out.trans (hB3.mono hw1)
        have hsz4 : w1.heap.size < ((wr.setCell ⟨w1.heap.size, k, none⟩ (.slice eo zs.length ecap)).alloc o4).heap.size := by
          have h1 := HROW.out.lt
          have h2 := set_size (w := wr) ⟨w1.heap.size, k, none⟩ (.slice eo zs.length ecap)
          simp; omega
        have hrows := rows_grown (w := (wr.setCell ⟨w1.heap.size, k, none⟩ (.slice eo zs.length ecap)).alloc o4) (G := w1.heap.size) (n := k) (U := U) (xs := xs) (zs := zs) (v3 := .slice eo zs.length ecap) HN.out hsz4
          ((HROW.out.set k _).alloc _) (fun j hj => by obtain ⟨b, off, _, _, _, hj3⟩ := HU.out j hj; exact (hj3.below hB4).mono (by omega)) ((H3.out.below hB4).mono (by omega))
        have hord := order_any (.map mo) (.slice (some ⟨w1.heap.size, 0, none⟩) (k + 1) (k + 1)) (.slice yo ys.length ycap) (xs ++ [zs]) (k + 1) _ (by omega) (by rw [List.length_append, HN.out]; rfl) (rows_mono HR1.out.symm HR2.out.symm) (lens_grown L1'.out (by unfold maxLen; omega)) hrows
        rw [order_grown xs zs k HN.out HR1.out.symm HR2.out.symm] at hord
        have HB4 : Hid (Below w.heap.size w ((wr.setCell ⟨w1.heap.size, k, none⟩ (.slice eo zs.length ecap)).alloc o4)) := hB4
        have HB3 : Hid (Below w1.heap.size w1 ((wr.setCell ⟨w1.heap.size, k, none⟩ (.slice eo zs.length ecap)).alloc o4)) := hB3
        have HSZ4 : Hid (w1.heap.size < ((wr.setCell ⟨w1.heap.size, k, none⟩ (.slice eo zs.length ecap)).alloc o4).heap.size) := hsz4
        subst ho4
        clear hB3 hB4 hsz4 hrows
        go_upto_region 16 with (go_at_call 8; refine hord.mono ?_; rintro e w5 ⟨fo, fcap, rfl, hf1, hf2, hfr, hfb⟩)
        have hfl : (orderL xs k ++ [k]).length = k + 1 := by rw [List.length_append, HOL.out]; rfl
        rw [hfl] at hf1 hfr
        rw [HOL.out]
        obtain ⟨hft, fb, foff, hfo, hfc⟩ := intRow_take HOL.out hfr
        subst hfo
        have hbb : IntRow w5 w5.heap.size (.slice bo k bcap) (ints (orderL xs k)) := ((HBR.out.below HB3.out).below (hfb.mono (by have := HSZ4.out; omega))).mono (by have h1 := hfb.size; have h2 := HSZ4.out; omega)
        have hlen : (ints (orderL xs k)).length ≤ maxLen := by rw [ints, List.length_map, HOL.out]; unfold maxLen; omega
        have heq := equal_any (.slice (some ⟨fb, foff, none⟩) k fcap) (.slice bo k bcap) (ints (orderL xs k)) (ints (orderL xs k)) w5.heap.size w5 hft hbb hlen hlen
        rw [show (ints (orderL xs k) == ints (orderL xs k)) = true from by simp] at heq
        have hperm := fun q => permutation_any (.slice bo k bcap) (ints (orderL xs k)) k (w5.drewN q) (hbb.drewN q) (by omega) (order_perm xs k HR1.out.symm)
        have HFIN : Hid (Below w.heap.size w w5) := HB4.out.trans (hfb.mono (by have h1 := HSZ4.out; omega))
        clear hord hfl hft hbb hlen hfb hfr cg fg
        go_wp2_with (first | (go_at_call 10; refine heq.mono ?_; rintro e w' ⟨rfl, q, hq⟩; subst w') | (go_at_call 13; refine (hperm _).mono ?_; rintro e w6 ⟨rfl, hb6⟩))
        go_ret
        refine ⟨rfl, ?_⟩
        have h6 : Below w5.heap.size w5 w6 := ⟨hb6.os, hb6.tape, hb6.output, hb6.size, hb6.block⟩
        exact HFIN.out.trans (h6.mono HFIN.out.size)

end Go.Proofs.Qxb6627646a
