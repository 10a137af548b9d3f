/-
  PLAIN: zzAcyclic's counting sort of the edges by their targets, and the peeling of steps whose dependencies are all peeled.
-/
import Derived.Test.Qxb6627646aDfs
namespace Go.Proofs.Qxb6627646a
set_option linter.unusedVariables false

/-! ### The edges, as (source, target), in the order of the rows -/
def rowsE (g : Nat → List Nat) : Nat → List (Nat × Nat)
  | 0 => []
  | i + 1 => rowsE g i ++ (g i).map (fun b => (i, b))
def partE (g : Nat → List Nat) (i k : Nat) : List (Nat × Nat) := rowsE g i ++ ((g i).take k).map (fun b => (i, b))

theorem partE_zero (g : Nat → List Nat) (i : Nat) : partE g i 0 = rowsE g i := by simp [partE]
theorem partE_all (g : Nat → List Nat) (i k : Nat) (h : (g i).length ≤ k) : partE g i k = rowsE g (i + 1) := by simp [partE, rowsE, List.take_of_length_le h]
theorem partE_succ (g : Nat → List Nat) (i k : Nat) (h : k < (g i).length) : partE g i (k + 1) = partE g i k ++ [(i, (g i)[k])] := by
  simp only [partE]
  rw [List.take_succ_eq_append_getElem h, List.map_append, List.append_assoc]
  rfl

theorem rowsE_prefix (g : Nat → List Nat) (i : Nat) : ∀ m, ∃ R, rowsE g (i + m) = rowsE g i ++ R
  | 0 => ⟨[], by simp⟩
  | m + 1 => by
    obtain ⟨R, h⟩ := rowsE_prefix g i m
    exact ⟨R ++ (g (i + m)).map (fun b => (i + m, b)), by rw [← Nat.add_assoc, rowsE, h, List.append_assoc]⟩

theorem partE_prefix (g : Nat → List Nat) (n i k : Nat) (hi : i < n) : ∃ R, rowsE g n = partE g i k ++ R := by
  obtain ⟨R, h⟩ := rowsE_prefix g (i + 1) (n - (i + 1))
  rw [show i + 1 + (n - (i + 1)) = n by omega] at h
  refine ⟨((g i).drop k).map (fun b => (i, b)) ++ R, ?_⟩
  rw [h, rowsE, partE, List.append_assoc, List.append_assoc, ← List.append_assoc ((g i).take k |>.map _), ← List.map_append, List.take_append_drop]

/-- The sources of the edges to x. -/
def srcs (E : List (Nat × Nat)) (x : Nat) : List Nat := (E.filter (fun p => p.2 == x)).map (fun p => p.1)
/-- How many edges have a target below x. -/
def cb (E : List (Nat × Nat)) (x : Nat) : Nat := (E.filter (fun p => decide (p.2 < x))).length

theorem srcs_append (E F : List (Nat × Nat)) (x : Nat) : srcs (E ++ F) x = srcs E x ++ srcs F x := by simp [srcs]
theorem srcs_one (i j x : Nat) : srcs [(i, j)] x = if j = x then [i] else [] := by
  unfold srcs
  by_cases h : j = x <;> simp [h]
theorem cb_zero (E : List (Nat × Nat)) : cb E 0 = 0 := by simp [cb]
theorem cb_succ (x : Nat) : ∀ (E : List (Nat × Nat)), cb E (x + 1) = cb E x + (srcs E x).length
  | [] => rfl
  | p :: E => by
    have ih := cb_succ x E
    simp only [cb, srcs, List.length_map] at ih ⊢
    by_cases h1 : p.2 < x
    · have h2 : p.2 < x + 1 := by omega
      have h3 : ¬ p.2 = x := by omega
      simp [h1, h2, h3]; omega
    · by_cases h3 : p.2 = x
      · have h2 : p.2 < x + 1 := by omega
        simp [h3]; omega
      · have h2 : ¬ p.2 < x + 1 := by omega
        simp [h1, h2, h3]; omega
theorem cb_le (E : List (Nat × Nat)) (x : Nat) : cb E x ≤ E.length := List.length_filter_le _ _
theorem cb_mono (E : List (Nat × Nat)) (x : Nat) : ∀ m, cb E x ≤ cb E (x + m)
  | 0 => Nat.le_refl _
  | m + 1 => by have := cb_mono E x m; have := cb_succ (x + m) E; rw [← Nat.add_assoc]; omega
theorem cb_le_cb (E : List (Nat × Nat)) {x y : Nat} (h : x ≤ y) : cb E x ≤ cb E y := by
  have := cb_mono E x (y - x)
  rwa [show x + (y - x) = y by omega] at this
theorem rowsE_lt {g : Nat → List Nat} {n : Nat} (hg : ∀ i, ∀ j ∈ g i, j < n) : ∀ i, ∀ p ∈ rowsE g i, p.1 < i ∧ p.2 < n
  | 0, p, h => by simp [rowsE] at h
  | i + 1, p, h => by
    rcases List.mem_append.1 h with h | h
    · have := rowsE_lt hg i p h; omega
    · obtain ⟨b, hb, rfl⟩ := List.mem_map.1 h
      exact ⟨by show i < i + 1; omega, hg i b hb⟩
theorem cb_all {g : Nat → List Nat} {n : Nat} (hg : ∀ i, ∀ j ∈ g i, j < n) : cb (rowsE g n) n = (rowsE g n).length := by
  unfold cb
  rw [List.length_filter_eq_length_iff.2]
  intro p hp
  simpa using (rowsE_lt hg n p hp).2
theorem srcs_lt {g : Nat → List Nat} {n x : Nat} (hg : ∀ i, ∀ j ∈ g i, j < n) : ∀ i ∈ srcs (rowsE g n) x, i < n := by
  intro i hi
  obtain ⟨p, hp, rfl⟩ := List.mem_map.1 hi
  exact (rowsE_lt hg n p (List.mem_filter.1 hp).1).1

/-- The array 'rev' holds, from cb x on, the sources of the edges to x that have been laid. -/
def RevOK (E0 E : List (Nat × Nat)) (R : Nat → Int) : Prop := ∀ (x r : Nat) (h : r < (srcs E x).length), R (cb E0 x + r) = ((srcs E x)[r] : Nat)

theorem revOK_nil (E0 : List (Nat × Nat)) (R : Nat → Int) : RevOK E0 [] R := by
  intro x r h
  simp [srcs] at h

theorem revOK_step {E0 E : List (Nat × Nat)} {R : Nat → Int} {i j : Nat} (h : RevOK E0 E R) (hpre : ∃ F, E0 = (E ++ [(i, j)]) ++ F) : RevOK E0 (E ++ [(i, j)]) (upd R (cb E0 j + (srcs E j).length) (i : Int)) := by
  obtain ⟨F, hF⟩ := hpre
  have hle : ∀ x, (srcs (E ++ [(i, j)]) x).length ≤ (srcs E0 x).length := by
    intro x
    rw [hF, srcs_append (E ++ [(i, j)]) F x, List.length_append]; omega
  intro x r hr
  have hlx := hle x
  have hlj := hle j
  have hcx := cb_succ x E0
  have hcj := cb_succ j E0
  have ej : srcs (E ++ [(i, j)]) j = srcs E j ++ [i] := by rw [srcs_append, srcs_one, if_pos rfl]
  rw [ej] at hlj
  simp only [List.length_append, List.length_singleton] at hlj
  by_cases hx : x = j
  · subst hx
    have hr' := hr
    rw [ej] at hr'
    simp only [List.length_append, List.length_singleton] at hr'
    simp only [ej]
    by_cases hrl : r < (srcs E x).length
    · rw [upd_other _ _ _ _ (by omega), List.getElem_append_left hrl]
      exact h x r hrl
    · have : r = (srcs E x).length := by omega
      subst this
      rw [upd_same, List.getElem_append_right (by omega)]
      simp
  · have ex : srcs (E ++ [(i, j)]) x = srcs E x := by rw [srcs_append, srcs_one, if_neg (fun e => hx e.symm), List.append_nil]
    have hr' := hr
    rw [ex] at hr'
    simp only [ex] at hlx ⊢
    have hne : cb E0 x + r ≠ cb E0 j + (srcs E j).length := by
      rcases Nat.lt_or_gt_of_ne hx with hlt | hlt
      · have := cb_le_cb E0 (show x + 1 ≤ j by omega); omega
      · have := cb_le_cb E0 (show j + 1 ≤ x by omega); omega
    rw [upd_other _ _ _ _ hne]
    exact h x r hr'

/-! ### How often i is a source of the edges to x -/
theorem count_one (n x i : Nat) : ∀ (l : List Nat), (srcs (l.map (fun b => (n, b))) x).count i = if n = i then l.count x else 0
  | [] => by simp [srcs]
  | b :: l => by
    have ih := count_one n x i l
    have e : srcs ((b :: l).map (fun b => (n, b))) x = srcs [(n, b)] x ++ srcs (l.map (fun b => (n, b))) x := by rw [← srcs_append]; rfl
    rw [e, List.count_append, ih, srcs_one]
    by_cases h1 : b = x
    · by_cases h2 : n = i
      · simp [h1, h2]; omega
      · simp [h1, h2]
    · by_cases h2 : n = i
      · simp [h1, h2]
      · simp [h1, h2]

theorem count_srcs (g : Nat → List Nat) (x i : Nat) : ∀ n, (srcs (rowsE g n) x).count i = if i < n then (g i).count x else 0
  | 0 => by simp [rowsE, srcs]
  | n + 1 => by
    rw [rowsE, srcs_append, List.count_append, count_srcs g x i n, count_one]
    by_cases h1 : i < n
    · rw [if_pos h1, if_neg (by omega), if_pos (by omega)]; omega
    · rw [if_neg h1]
      by_cases h2 : n = i
      · rw [if_pos h2, if_pos (by omega), h2]; omega
      · rw [if_neg h2, if_neg (by omega)]

theorem filter_mem_cons (x : Nat) (l : List Nat) (hx : x ∉ l) : ∀ (m : List Nat), (m.filter (fun b => decide (b ∈ x :: l))).length = m.count x + (m.filter (fun b => decide (b ∈ l))).length
  | [] => rfl
  | b :: m => by
    have ih := filter_mem_cons x l hx m
    by_cases h1 : b = x
    · subst h1
      have h3 : ¬ b ∈ l := hx
      simp only [List.filter_cons, List.mem_cons, true_or, decide_true, if_true, List.length_cons, List.count_cons_self, h3, decide_false, Bool.false_eq_true, if_false]
      simp only [List.mem_cons] at ih
      omega
    · by_cases h2 : b ∈ l
      · simp only [List.filter_cons, List.mem_cons, h1, h2, or_true, decide_true, if_true, List.length_cons, List.count_cons_of_ne h1]
        simp only [List.mem_cons] at ih
        omega
      · simp only [List.filter_cons, List.mem_cons, h1, h2, or_false, decide_false, Bool.false_eq_true, if_false, List.count_cons_of_ne h1]
        simp only [List.mem_cons] at ih
        omega

theorem count_flat (g : Nat → List Nat) (n i : Nat) (hi : i < n) : ∀ (l : List Nat), l.Nodup → (l.flatMap (srcs (rowsE g n))).count i = ((g i).filter (fun b => decide (b ∈ l))).length
  | [], _ => by
    have e : (g i).filter (fun b => decide (b ∈ ([] : List Nat))) = [] := List.filter_eq_nil_iff.2 (fun a _ => by simp)
    rw [e]; rfl
  | x :: l, h => by
    obtain ⟨h1, h2⟩ := List.nodup_cons.1 h
    rw [List.flatMap_cons, List.count_append, count_flat g n i hi l h2, count_srcs, if_pos hi, filter_mem_cons x l h1]

/-! ### The peeling -/
/-- proc: the sources of the edges that have been taken off. -/
structure Peel (g : Nat → List Nat) (n : Nat) (Q proc : List Nat) : Prop where
  nd : Q.Nodup
  lt : ∀ i ∈ Q, i < n
  zero : ∀ i ∈ Q, proc.count i = (g i).length
  top : TopL g Q

/-- What has been taken off when h steps are peeled and r edges of the next. -/
def procOf (g : Nat → List Nat) (n : Nat) (Q : List Nat) (h : Nat) (j r : Nat) : List Nat := (Q.take h).flatMap (srcs (rowsE g n)) ++ (srcs (rowsE g n) j).take r

theorem procOf_le {g : Nat → List Nat} {n : Nat} {Q : List Nat} {h j r i : Nat} (hnd : Q.Nodup) (hj : Q[h]? = some j) (hi : i < n) :
    (procOf g n Q h j r).count i ≤ ((g i).filter (fun b => decide (b ∈ Q.take (h + 1)))).length := by
  have hh := (List.getElem?_eq_some_iff.1 hj).1
  have he : Q[h] = j := (List.getElem?_eq_some_iff.1 hj).2
  have hnd' : (Q.take (h + 1)).Nodup := (List.take_sublist (h + 1) Q).nodup hnd
  rw [← count_flat g n i hi _ hnd', List.take_succ_eq_append_getElem hh, he, List.flatMap_append, procOf, List.count_append, List.count_append]
  have := (List.take_sublist r (srcs (rowsE g n) j)).count_le i
  simp only [List.flatMap_cons, List.flatMap_nil, List.append_nil]
  omega

theorem peel_step {g : Nat → List Nat} {n : Nat} {Q : List Nat} {h j r i : Nat} (hp : Peel g n Q (procOf g n Q h j r)) (hj : Q[h]? = some j) (hr : r < (srcs (rowsE g n) j).length) (he : (srcs (rowsE g n) j)[r] = i) (hi : i < n) :
    (procOf g n Q h j (r + 1)).count i ≤ (g i).length ∧ (procOf g n Q h j r).count i + 1 = (procOf g n Q h j (r + 1)).count i ∧ (∀ k, k ≠ i → (procOf g n Q h j (r + 1)).count k = (procOf g n Q h j r).count k) ∧
    (¬ (procOf g n Q h j (r + 1)).count i = (g i).length → Peel g n Q (procOf g n Q h j (r + 1))) ∧
    ((procOf g n Q h j (r + 1)).count i = (g i).length → Peel g n (Q ++ [i]) (procOf g n (Q ++ [i]) h j (r + 1)) ∧ procOf g n (Q ++ [i]) h j (r + 1) = procOf g n Q h j (r + 1)) := by
  have hpr : procOf g n Q h j (r + 1) = procOf g n Q h j r ++ [i] := by
    simp only [procOf]
    rw [List.take_succ_eq_append_getElem hr, he, List.append_assoc]
  have hle1 := procOf_le (g := g) (n := n) (r := r + 1) hp.nd hj hi
  have hle2 : ((g i).filter (fun b => decide (b ∈ Q.take (h + 1)))).length ≤ (g i).length := List.length_filter_le _ _
  have hci : (procOf g n Q h j r).count i + 1 = (procOf g n Q h j (r + 1)).count i := by rw [hpr, List.count_append, List.count_singleton]; simp
  have hck : ∀ k, k ≠ i → (procOf g n Q h j (r + 1)).count k = (procOf g n Q h j r).count k := by
    intro k hk
    rw [hpr, List.count_append, List.count_singleton]
    rw [if_neg (by simpa using fun e => hk (Eq.symm e))]; rfl
  have hniQ : i ∉ Q := fun hm => by have := hp.zero i hm; omega
  have hz : ∀ k ∈ Q, (procOf g n Q h j (r + 1)).count k = (g k).length := by
    intro k hk
    rw [hck k (fun e => hniQ (e ▸ hk))]
    exact hp.zero k hk
  refine ⟨by omega, hci, hck, fun _ => ⟨hp.nd, hp.lt, hz, hp.top⟩, fun heq => ?_⟩
  have hh := (List.getElem?_eq_some_iff.1 hj).1
  have hsame : procOf g n (Q ++ [i]) h j (r + 1) = procOf g n Q h j (r + 1) := by
    simp only [procOf]
    rw [List.take_append_of_le_length (by omega)]
  refine ⟨⟨?_, ?_, ?_, ?_⟩, hsame⟩
  · rw [List.nodup_append]
    refine ⟨hp.nd, by simp, fun a ha b hb => ?_⟩
    rw [List.mem_singleton.1 hb]
    exact fun e => hniQ (e ▸ ha)
  · intro k hk
    rcases List.mem_append.1 hk with hk | hk
    · exact hp.lt k hk
    · rw [List.mem_singleton.1 hk]; exact hi
  · intro k hk
    rw [hsame]
    rcases List.mem_append.1 hk with hk | hk
    · exact hz k hk
    · rw [List.mem_singleton.1 hk]; exact heq
  · refine topL_snoc hp.top (fun b hb => ?_)
    have hall : ((g i).filter (fun b => decide (b ∈ Q.take (h + 1)))).length = (g i).length := by omega
    have := List.length_filter_eq_length_iff.1 hall b hb
    exact List.mem_of_mem_take (by simpa using this)

theorem procOf_next {g : Nat → List Nat} {n : Nat} {Q : List Nat} {h j j' : Nat} (hj : Q[h]? = some j) : procOf g n Q h j (srcs (rowsE g n) j).length = procOf g n Q (h + 1) j' 0 := by
  have hh := (List.getElem?_eq_some_iff.1 hj).1
  have he : Q[h] = j := (List.getElem?_eq_some_iff.1 hj).2
  simp only [procOf]
  rw [List.take_of_length_le (Nat.le_refl _), List.take_succ_eq_append_getElem hh, he, List.flatMap_append]
  simp

/-- The steps without dependencies. -/
def free (g : Nat → List Nat) (i : Nat) : List Nat := (List.range i).filter (fun a => decide ((g a).length = 0))
theorem free_succ (g : Nat → List Nat) (i : Nat) : free g (i + 1) = free g i ++ (if (g i).length = 0 then [i] else []) := by
  unfold free
  rw [List.range_succ, List.filter_append]
  by_cases h : (g i).length = 0
  · simp only [List.filter_cons, h, decide_true, if_true, List.filter_nil]
  · simp only [List.filter_cons, h, decide_false, Bool.false_eq_true, if_false, List.filter_nil]
theorem free_le (g : Nat → List Nat) (i : Nat) : (free g i).length ≤ i := by
  have := List.length_filter_le (fun a => decide ((g a).length = 0)) (List.range i)
  simpa [free] using this
theorem peel_start (g : Nat → List Nat) (n j : Nat) : Peel g n (free g n) (procOf g n (free g n) 0 j 0) := by
  have hm : ∀ i ∈ free g n, i < n ∧ (g i).length = 0 := by
    intro i hi
    have := List.mem_filter.1 hi
    exact ⟨List.mem_range.1 this.1, by simpa using this.2⟩
  refine ⟨?_, fun i hi => (hm i hi).1, fun i hi => ?_, fun q i hq b hb => ?_⟩
  · exact List.Sublist.nodup List.filter_sublist List.nodup_range
  · rw [(hm i hi).2]; simp [procOf]
  · have hi := List.mem_of_getElem? hq
    have := (hm i hi).2
    rw [List.length_eq_zero_iff.1 this] at hb
    cases hb

/-- All steps are peeled: their places in the queue fall along every edge. -/
theorem peel_rank {g : Nat → List Nat} {n : Nat} {Q proc : List Nat} (hp : Peel g n Q proc) (hl : Q.length = n) : ∃ rk : Nat → Nat, ∀ i, i < n → ∀ j ∈ g i, rk j < rk i := by
  have hall : ∀ i, i < n → i ∈ Q := by
    intro i hi
    apply Classical.byContradiction
    intro hc
    have := nodup_lt hp.nd hp.lt hi hc
    omega
  refine ⟨fun i => Q.idxOf i, fun i hi j hj => ?_⟩
  have hlt := List.idxOf_lt_length_iff.2 (hall i hi)
  have hget : Q[Q.idxOf i]? = some i := by rw [List.getElem?_eq_getElem hlt, List.getElem_idxOf hlt]
  have hjm := hp.top _ i hget j hj
  obtain ⟨q, hq, e⟩ := List.mem_take_iff_getElem.1 hjm
  have hqj : Q.idxOf j = q := by rw [← e]; exact hp.nd.idxOf_getElem q _
  show Q.idxOf j < Q.idxOf i
  omega

end Go.Proofs.Qxb6627646a
