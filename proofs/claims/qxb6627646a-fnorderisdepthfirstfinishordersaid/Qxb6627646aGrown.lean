/-
  PLAIN LAWS: the order is a permutation; a new last node comes last.
-/
import Derived.Test.Qxb6627646aOrder
namespace Go.Proofs.Qxb6627646a
set_option linter.unusedVariables false

theorem roots_all (n : Nat) (g : Nat → List Nat) (hg : ∀ i, ∀ j ∈ g i, j < n) : (rootsSt g n n).comps.flatten.Nodup ∧ (∀ j, j ∈ (rootsSt g n n).comps.flatten ↔ j < n) ∧ (rootsSt g n n).comps.flatten.length = n := by
  obtain ⟨h1, h2, h3⟩ := roots_inv n g hg n (Nat.le_refl _)
  have e : seenL (rootsSt g n n) = (rootsSt g n n).comps.flatten := by rw [seenL, h2, List.nil_append]
  have hnd := h1.nd
  rw [e] at hnd
  have hm : ∀ j, j ∈ (rootsSt g n n).comps.flatten ↔ j < n := fun j => ⟨fun hj => h1.lt j (by rw [e]; exact hj), fun hj => by rw [← e]; exact (h1.vis j).1 (h3 j hj)⟩
  refine ⟨hnd, hm, Nat.le_antisymm (nodup_le hnd (fun j hj => (hm j).1 hj)) ?_⟩
  have := List.Nodup.length_le_of_subset (List.nodup_range (n := n)) (l₂ := (rootsSt g n n).comps.flatten) (fun j hj => (hm j).2 (List.mem_range.1 hj))
  simpa using this

theorem ints_nodup : ∀ {l : List Nat}, l.Nodup → (ints l).Nodup
  | [], _ => List.nodup_nil
  | a :: l, h => by
    obtain ⟨h1, h2⟩ := List.nodup_cons.1 h
    refine List.nodup_cons.2 ⟨fun hm => ?_, ints_nodup h2⟩
    obtain ⟨b, hb, e⟩ := List.mem_map.1 hm
    have : b = a := by injection e
    exact h1 (this ▸ hb)

theorem order_perm (xss : List (List Int)) (n : Nat) (hr : rowsInRange (n : Int) xss = true) : PermOK (ints (orderL xss n)) n := by
  obtain ⟨h1, h2, h3⟩ := roots_all n (graphOf xss) (graph_lt hr)
  refine ⟨by rw [ints, List.length_map]; exact h3, ints_nodup h1, fun x hx => ?_⟩
  simp only [ints, orderL, List.mem_map] at hx
  obtain ⟨j, hj, rfl⟩ := hx
  have := (h2 j).1 hj
  simp
  omega

/-- The search hangs neither on the fuel (if it is enough) nor on the rows of nodes beyond n. -/
theorem visit_eq (n : Nat) (g g' : Nat → List Nat) (hg : ∀ i, ∀ j ∈ g i, j < n) (hgg : ∀ i, i < n → g' i = g i) :
    ∀ (f f' : Nat) (s : St) (i : Nat), Inv n s → i < n → s.ord i = -1 → n - s.next ≤ f → n - s.next ≤ f' → visitSt g' f' s i = visitSt g f s i
  | 0, _, s, i, hs, hi, hv, hf, _ => by have := hs.next_lt hi hv; omega
  | f + 1, 0, s, i, hs, hi, hv, _, hf => by have := hs.next_lt hi hv; omega
  | f + 1, f' + 1, s, i, hs, hi, hv, hf, hf' => by
    rw [visitSt, visitSt, hgg i hi]
    have key : ∀ (l : List Nat) (t : St), (∀ j ∈ l, j < n) → Mid n s i t → l.foldl (edgeSt (visitSt g' f') i) t = l.foldl (edgeSt (visitSt g f) i) t := by
      intro l
      induction l with
      | nil => intro t _ _; rfl
      | cons j l ih =>
        intro t hl ht
        have hj := hl j (List.mem_cons_self ..)
        have e : edgeSt (visitSt g' f') i t j = edgeSt (visitSt g f) i t j := by
          unfold edgeSt
          by_cases h1 : t.ord j = -1
          · rw [if_pos h1, if_pos h1, visit_eq n g g' hg hgg f f' t j ht.inv hj h1 (by have := ht.lt; omega) (by have := ht.lt; omega)]
          · rw [if_neg h1, if_neg h1]
        rw [List.foldl_cons, List.foldl_cons, e]
        exact ih _ (fun k hk => hl k (List.mem_cons_of_mem _ hk)) (mid_edge hs hi hv ht hj (fun h1 => visit_done n g hg f t j ht.inv hj h1 (by have := ht.lt; omega)))
    rw [key _ _ (hg i) (mid_enter hs hi hv)]

theorem roots_eq (n : Nat) (g g' : Nat → List Nat) (hg : ∀ i, ∀ j ∈ g i, j < n) (hgg : ∀ i, i < n → g' i = g i) : ∀ k, k ≤ n → rootsSt g' (n + 1) k = rootsSt g n k
  | 0, _ => rfl
  | k + 1, hk => by
    rw [rootsSt_succ, rootsSt_succ, roots_eq n g g' hg hgg k (by omega)]
    unfold rootSt
    by_cases hv : (rootsSt g n k).ord k = -1
    · rw [if_pos hv, if_pos hv]
      exact visit_eq n g g' hg hgg n (n + 1) _ k (roots_inv n g hg k (by omega)).1 (by omega) hv (by omega) (by omega)
    · rw [if_neg hv, if_neg hv]

theorem edges_idle (rec : St → Nat → St) (i : Nat) (t : St) : ∀ (l : List Nat), (∀ j ∈ l, t.ord j ≠ -1 ∧ t.on j = false) → l.foldl (edgeSt rec i) t = t
  | [], _ => rfl
  | j :: l, h => by
    have hj := h j (List.mem_cons_self ..)
    have e : edgeSt rec i t j = t := by
      unfold edgeSt
      rw [if_neg hj.1, if_neg (by rw [hj.2]; decide)]
    rw [List.foldl_cons, e]
    exact edges_idle rec i t l (fun k hk => h k (List.mem_cons_of_mem _ hk))

theorem roots_last (n : Nat) (g g' : Nat → List Nat) (hg : ∀ i, ∀ j ∈ g i, j < n) (hgg : ∀ i, i < n → g' i = g i) (hx : ∀ j ∈ g' n, j < n) : (rootsSt g' (n + 1) (n + 1)).comps = (rootsSt g n n).comps ++ [[n]] := by
  obtain ⟨h1, h2, h3⟩ := roots_inv n g hg n (Nat.le_refl _)
  rw [rootsSt_succ, roots_eq n g g' hg hgg n (Nat.le_refl _)]
  have hv : (rootsSt g n n).ord n = -1 := by
    apply Classical.byContradiction
    intro hc
    have := h1.lt n ((h1.vis n).1 hc)
    omega
  generalize rootsSt g n n = s at *
  rw [rootSt, if_pos hv, visitSt, edges_idle]
  · have hstk : (enterSt n s).stack = [] ++ n :: [] := by simp [enterSt, h2]
    have he : (enterSt n s).low n = (enterSt n s).ord n := by simp [enterSt, upd_same]
    rw [leaveSt, if_pos he, popSt_spec hstk (by simp)]
    simp [enterSt]
  · intro j hj
    have hjn := hx j hj
    have hne : j ≠ n := by omega
    refine ⟨?_, ?_⟩
    · show upd s.ord n s.next j ≠ -1
      rw [upd_other _ _ _ _ hne]; exact h3 j hjn
    · show upd s.on n true j = false
      rw [upd_other _ _ _ _ hne]
      apply Bool.eq_false_iff.2
      intro hc
      have := (h1.on j).1 hc
      rw [h2] at this
      cases this

theorem graph_grown (xss : List (List Int)) (ys : List Int) (i : Nat) (hi : i < xss.length) : graphOf (xss ++ [ys]) i = graphOf xss i := by
  have e1 : (xss ++ [ys]).getD i [] = xss.getD i [] := by simp [List.getD, List.getElem?_append, hi]
  rw [graphOf, e1, graphOf]

theorem graph_last (xss : List (List Int)) (ys : List Int) : graphOf (xss ++ [ys]) xss.length = ys.map Int.toNat := by
  have e1 : (xss ++ [ys]).getD xss.length [] = ys := by simp [List.getD]
  rw [graphOf, e1]

theorem order_grown (xss : List (List Int)) (ys : List Int) (n : Nat) (hl : xss.length = n) (hr : rowsInRange (n : Int) xss = true) (hy : inRange (n : Int) ys = true) : orderL (xss ++ [ys]) (n + 1) = orderL xss n ++ [n] := by
  subst hl
  have h := roots_last xss.length (graphOf xss) (graphOf (xss ++ [ys])) (graph_lt hr) (fun i hi => graph_grown xss ys i hi) (fun j hj => by
    rw [graph_last] at hj
    obtain ⟨x, hx, rfl⟩ := List.mem_map.1 hj
    have := List.all_eq_true.1 hy x hx
    simp only [Bool.and_eq_true, decide_eq_true_eq] at this
    omega)
  rw [orderL, h, orderL]
  simp

end Go.Proofs.Qxb6627646a
