import Derived.Test.Qxb6627646aAcyc
import Derived.Test.Qxb6627646aPost
import Derived.Test.Qxb6627646aTopo
import Derived.Test.Qxb6627646aGrown
import Derived.Test.Qxb6627646aSmall
namespace Go.Proofs.Qxb6627646a
open Go.RowKit Go.Deep
set_option linter.unusedVariables false

/-- On a graph without cycles the order is the order in which the depth-first search finishes, and each node stands behind all that it has edges to. -/
theorem order_acyc {xss : List (List Int)} {n : Nat} (hr : rowsInRange (n : Int) xss = true) (hac : ∃ rk : Nat → Nat, ∀ i, i < n → ∀ j ∈ graphOf xss i, rk j < rk i) :
    orderL xss n = (rootsD (graphOf xss) n n).out ∧ TopL (graphOf xss) (orderL xss n) := by
  obtain ⟨rk, hrk⟩ := hac
  obtain ⟨h1, h2⟩ := roots_acyc n (graphOf xss) (graph_lt hr) rk hrk (fun k hk => ⟨(roots_inv n (graphOf xss) (graph_lt hr) k hk).1, (roots_inv n (graphOf xss) (graph_lt hr) k hk).2.1⟩) n (Nat.le_refl _)
  have e : orderL xss n = (rootsD (graphOf xss) n n).out := h1.out
  exact ⟨e, by rw [e]; exact h2⟩

set_option maxHeartbeats 1000000 in
set_option maxRecDepth 100000 in
theorem law2_walk (mo : Option Nat) (v1 v2 : Value) (m : Nat) (xs ys : List (List Int)) (w : World)
    (hm : ∀ ty, (Builtin.len_ #[22] ty #[.map mo]).run Try.prog w = .ok (.int .i64 m) w) (h1 : IntRows w w.heap.size v1 xs) (h2 : IntRows w w.heap.size v2 ys)
    (l1 : xs.length ≤ maxLen) (l2 : ys.length ≤ maxLen) (l1' : ∀ k, (xs.getD k []).length ≤ maxLen) (l2' : ∀ k, (ys.getD k []).length ≤ maxLen) :
    Calls Try.prog 3 #[.map mo, v1, v2] w fun e w' => e = .returned (.bool true) ∧ Below w.heap.size w w' := by
  have hsize := sizeOK_core (.map mo) v1 v2 (.slice none 0 0) m xs ys [] w.heap.size w hm h1 h2 ⟨none, 0, rfl, fun k hk => by simp at hk⟩ l1 l2 (by simp) l1' l2'
  have H1 : Hid (IntRows w w.heap.size v1 xs) := h1
  have L1' : Hid (∀ k, (xs.getD k []).length ≤ maxLen) := l1'
  have hl1 := l1
  unfold maxLen at hl1
  obtain ⟨n, hn⟩ : ∃ n, n = xs.length := ⟨_, rfl⟩
  have HN : Hid (xs.length = n) := hn.symm
  obtain ⟨ao, cap, hv1, _⟩ := h1
  obtain ⟨yo, ycap, hv2, _⟩ := h2
  subst hv1
  subst hv2
  rw [← hn]
  rw [← hn] at hsize H1 hl1
  have hrir := rowsInRange_any (.slice ao n cap) xs n w.heap.size w H1.out l1 l1'
  clear hm l1 l2 l1' l2' hn
  obtain ⟨r1, hr1⟩ : ∃ r1, r1 = rowsInRange (n : Int) xs := ⟨_, rfl⟩
  rw [← hr1] at hrir
  have HR1 : Hid (r1 = rowsInRange (n : Int) xs) := hr1
  clear hr1
  go_enter Try.func3, Try.ntmps3
  go_wp2_with (go_at_call 5; refine hsize.mono ?_; rintro e w' ⟨⟨r, rfl, hsz⟩, hw⟩; subst w')
  · go_ret
    exact ⟨rfl, Below.refl _ _⟩
  have hrt : r = true := by simpa using ‹(!r) = false›
  obtain ⟨hn, _, htot⟩ := hsz hrt
  rw [HN.out] at hn
  clear hsize hrt hsz
  cases r1 with
  | false =>
    go_wp2_with (first | (go_at_call 6; refine hrir.mono ?_; rintro e w' ⟨rfl, hw⟩; subst w'))
    go_ret
    exact ⟨rfl, Below.refl _ _⟩
  | true =>
    have hac := acyclic_any (.slice ao n cap) xs n w hn HN.out htot HR1.out.symm L1'.out H1.out
    go_wp2_with (first | (go_at_call 6; refine hrir.mono ?_; rintro e w' ⟨rfl, hw⟩; subst w') | (go_at_call 7; refine hac.mono ?_; rintro e w1 ⟨⟨r3, rfl, hrk⟩, hb1⟩))
    · go_ret
      exact ⟨rfl, hb1⟩
    have hr3 : r3 = true := by simpa using ‹(!r3) = false›
    have hoa := order_acyc HR1.out.symm (hrk hr3)
    have HOA : Hid (orderL xs n = (rootsD (graphOf xs) n n).out ∧ TopL (graphOf xs) (orderL xs n)) := hoa
    have HB1 : Hid (Below w.heap.size w w1) := hb1
    have hs1 := hb1.size
    have hord := fun o => order_any (.map mo) (.slice ao n cap) (.slice yo ys.length ycap) xs n (w1.alloc o) (by omega) HN.out HR1.out.symm L1'.out ((H1.out.below (hb1.alloc hs1 o)).mono (by simp; omega))
    clear hac hrir hrk hr3 hoa hb1
    go_upto_region 10 with (first | (go_at_call 8; refine (hord _).mono ?_; rintro e w2 ⟨bo, bcap, rfl, hb1, hb2, hbr, hbb⟩))
    have hbw : Below w.heap.size w w2 := (HB1.out.alloc hs1 _).trans (hbb.mono (by simp; omega))
    have hw2 := hbw.size
    have hol : (orderL xs n).length = n := (roots_all n (graphOf xs) (graph_lt HR1.out.symm)).2.2
    rw [hol] at hbr
    rw [hol]
    have HBR : Hid (IntRow w2 w2.heap.size (.slice bo n bcap) (ints (orderL xs n))) := hbr
    have HBW : Hid (Below w.heap.size w w2) := hbw
    have hpost := postorder_any (.slice ao n cap) xs n w2 hn HN.out HR1.out.symm L1'.out ((H1.out.below hbw).mono hw2)
    rw [← HOA.out.1] at hpost
    have HOL : Hid ((orderL xs n).length = n) := hol
    clear hord hbr hbb hbw hol hb1
    go_upto_region 11 with (go_at_call 9; refine hpost.mono ?_; rintro e w3 ⟨co, ccap, rfl, hc1, hc2, hcr, hcb⟩)
    have hw3 := hcb.size
    have hB3 : Below w.heap.size w w3 := HBW.out.trans (hcb.mono hw2)
    have hbr3 : IntRow w3 w3.heap.size (.slice bo n bcap) (ints (orderL xs n)) := (HBR.out.below hcb).mono hw3
    have hl : (ints (orderL xs n)).length ≤ maxLen := by rw [ints, List.length_map, HOL.out]; unfold maxLen; omega
    have heq := equal_any (.slice bo n bcap) (.slice co (orderL xs n).length ccap) (ints (orderL xs n)) (ints (orderL xs n)) w3.heap.size w3 hbr3 hcr hl hl
    rw [show (ints (orderL xs n) == ints (orderL xs n)) = true from by simp] at heq
    have hrows3 : IntRows w3 w3.heap.size (.slice ao n cap) xs := (H1.out.below hB3).mono (by omega)
    have htop := fun q => topological_any (.slice bo n bcap) (.slice ao n cap) (orderL xs n) xs n (w3.drewN q) hn HN.out HR1.out.symm L1'.out hbr3 hrows3 (order_perm xs n HR1.out.symm)
      (roots_all n (graphOf xs) (graph_lt HR1.out.symm)).1 (fun j hj => ((roots_all n (graphOf xs) (graph_lt HR1.out.symm)).2.1 j).2 hj) HOA.out.2
    have HB3 : Hid (Below w.heap.size w w3) := hB3
    have hs3 := hB3.size
    clear hpost hbr3 hrows3 hl hcr hB3 hcb hc1
    go_wp2_with (first | (go_at_call 10; refine heq.mono ?_; rintro e w' ⟨rfl, q, hq⟩; subst w') | (go_at_call 11; refine (htop _).mono ?_; rintro e w6 ⟨rfl, hb6⟩))
    go_ret
    refine ⟨rfl, ?_⟩
    have h6 : Below w3.heap.size w3 w6 := ⟨hb6.os, hb6.tape, hb6.output, hb6.size, hb6.block⟩
    exact HB3.out.trans (h6.mono hs3)

end Go.Proofs.Qxb6627646a
