/-
  PLAIN LAWS of the search.
-/
import Derived.Test.Qxb6627646aTarjan
namespace Go.Proofs.Qxb6627646a
set_option linter.unusedVariables false

/-- The nodes that the search has come to. -/
def seenL (s : St) : List Nat := s.stack ++ s.comps.flatten

structure Inv (n : Nat) (s : St) : Prop where
  nd : (seenL s).Nodup
  lt : ∀ j ∈ seenL s, j < n
  vis : ∀ j, s.ord j ≠ -1 ↔ j ∈ seenL s
  nx : s.next = (seenL s).length
  ne : ∀ c ∈ s.comps, c ≠ []
  on : ∀ j, s.on j = true ↔ j ∈ s.stack
  ob : ∀ j ∈ seenL s, 0 ≤ s.ord j ∧ s.ord j < s.next

theorem nodup_le {l : List Nat} {n : Nat} (h : l.Nodup) (hl : ∀ j ∈ l, j < n) : l.length ≤ n := by
  have := List.Nodup.length_le_of_subset h (l₂ := List.range n) (fun j hj => List.mem_range.2 (hl j hj))
  simpa using this

theorem nodup_lt {l : List Nat} {n i : Nat} (h : l.Nodup) (hl : ∀ j ∈ l, j < n) (hi : i < n) (hni : i ∉ l) : l.length < n := by
  have := nodup_le (l := i :: l) (n := n) (List.nodup_cons.2 ⟨hni, h⟩) (fun j hj => by
    rcases List.mem_cons.1 hj with rfl | hj
    · exact hi
    · exact hl j hj)
  simp only [List.length_cons] at this
  omega

theorem Inv.next_le {n : Nat} {s : St} (h : Inv n s) : s.next ≤ n := by rw [h.nx]; exact nodup_le h.nd h.lt
theorem Inv.next_lt {n : Nat} {s : St} (h : Inv n s) {i : Nat} (hi : i < n) (hv : s.ord i = -1) : s.next < n := by
  rw [h.nx]
  exact nodup_lt h.nd h.lt hi (fun hm => (h.vis i).2 hm hv)
theorem Inv.stack_le {n : Nat} {s : St} (h : Inv n s) : s.stack.length ≤ s.next := by rw [h.nx]; simp [seenL]
theorem flatten_len (l : List (List Nat)) (h : ∀ c ∈ l, c ≠ []) : l.length ≤ l.flatten.length := by
  induction l with
  | nil => simp
  | cons c l ih =>
    have h1 := ih (fun c hc => h c (List.mem_cons_of_mem _ hc))
    have h2 : 0 < c.length := List.length_pos_iff.2 (h c (List.mem_cons_self ..))
    simp only [List.length_cons, List.flatten_cons, List.length_append]
    omega
theorem Inv.comps_le {n : Nat} {s : St} (h : Inv n s) : s.comps.length ≤ s.next := by
  rw [h.nx]
  have := flatten_len s.comps h.ne
  simp only [seenL, List.length_append]
  omega
theorem Inv.stack_comps_le {n : Nat} {s : St} (h : Inv n s) : s.stack.length + s.comps.length ≤ s.next := by
  rw [h.nx]
  have := flatten_len s.comps h.ne
  simp only [seenL, List.length_append]
  omega

theorem inv_start (n : Nat) : Inv n startSt := by
  constructor <;> simp [seenL, startSt]

/-! ### Coming to a node -/
theorem seenL_enter (i : Nat) (s : St) : (seenL (enterSt i s)).Perm (i :: seenL s) := by
  simp only [seenL, enterSt, List.append_assoc, List.singleton_append]
  exact List.perm_middle

theorem inv_enter {n i : Nat} {s : St} (h : Inv n s) (hi : i < n) (hv : s.ord i = -1) : Inv n (enterSt i s) := by
  have hp := seenL_enter i s
  have hni : i ∉ seenL s := fun hm => (h.vis i).2 hm hv
  have hmem : ∀ j, j ∈ seenL (enterSt i s) ↔ j = i ∨ j ∈ seenL s := fun j => by rw [hp.mem_iff, List.mem_cons]
  refine ⟨hp.nodup_iff.2 (List.nodup_cons.2 ⟨hni, h.nd⟩), fun j hj => ?_, fun j => ?_, ?_, h.ne, fun j => ?_, fun j hj => ?_⟩
  · rcases (hmem j).1 hj with rfl | hj
    · exact hi
    · exact h.lt j hj
  · rw [hmem j]
    show upd s.ord i s.next j ≠ -1 ↔ _
    by_cases e : j = i
    · subst e; simp [upd_same]
    · rw [upd_other _ _ _ _ e, h.vis j]; simp [e]
  · show s.next + 1 = _
    rw [hp.length_eq, h.nx]; simp
  · show upd s.on i true j = true ↔ j ∈ s.stack ++ [i]
    by_cases e : j = i
    · subst e; simp [upd_same]
    · rw [upd_other _ _ _ _ e, h.on j]; simp [e]
  · show 0 ≤ upd s.ord i s.next j ∧ upd s.ord i s.next j < ((s.next + 1 : Nat) : Int)
    by_cases e : j = i
    · subst e; rw [upd_same]; omega
    · rw [upd_other _ _ _ _ e]
      have := h.ob j (((hmem j).1 hj).resolve_left e)
      omega

theorem inv_low {n i : Nat} {s : St} (h : Inv n s) (x : Int) : Inv n (lowSt i x s) := ⟨h.nd, h.lt, h.vis, h.nx, h.ne, h.on, h.ob⟩

/-! ### Popping -/
def offs (on : Nat → Bool) (l : List Nat) : Nat → Bool := fun j => if j ∈ l then false else on j

theorem offs_cons (on : Nat → Bool) (j : Nat) (l : List Nat) : offs (upd on j false) l = offs on (j :: l) := by
  funext k
  simp only [offs, upd, List.mem_cons]
  by_cases h1 : k = j <;> by_cases h2 : k ∈ l <;> simp [h1, h2]

theorem offs_nil (on : Nat → Bool) : offs on [] = on := by funext k; simp [offs]

theorem offs_snoc (on : Nat → Bool) (j : Nat) (l : List Nat) : upd (offs on l) j false = offs on (l ++ [j]) := by
  funext k
  simp only [offs, upd, List.mem_append, List.mem_singleton]
  by_cases h1 : k = j <;> by_cases h2 : k ∈ l <;> simp [h1, h2]

theorem popRev_spec (i : Nat) (R : List Nat) : ∀ (T : List Nat) (on : Nat → Bool) (c : List Nat), i ∉ T →
    popRev i (T ++ i :: R) on c = (R, offs on (T ++ [i]), c ++ T ++ [i])
  | [], on, c, _ => by
    simp only [List.nil_append, popRev, if_true, List.append_nil]
    have := offs_snoc on i []
    rw [offs_nil, List.nil_append] at this
    rw [this]
  | j :: T, on, c, h => by
    have hj : j ≠ i := fun e => h (by simp [e])
    have hT : i ∉ T := fun e => h (by simp [e])
    simp only [List.cons_append, popRev, if_neg hj]
    rw [popRev_spec i R T _ _ hT, offs_cons]
    simp

theorem popSt_spec {i : Nat} {s : St} {A T : List Nat} (hs : s.stack = A ++ i :: T) (hi : i ∉ T) :
    popSt i s = { s with stack := A, on := offs s.on (T.reverse ++ [i]), comps := s.comps ++ [T.reverse ++ [i]] } := by
  have hr : s.stack.reverse = T.reverse ++ i :: A.reverse := by rw [hs]; simp
  have := popRev_spec i A.reverse T.reverse s.on [] (by simpa using hi)
  simp only [popSt, hr, this, List.reverse_reverse, List.nil_append]

theorem seenL_pop {i : Nat} {s : St} {A T : List Nat} (hs : s.stack = A ++ i :: T) (hi : i ∉ T) : (seenL (popSt i s)).Perm (seenL s) := by
  rw [popSt_spec hs hi]
  simp only [seenL, hs, List.flatten_append, List.flatten_cons, List.flatten_nil, List.append_nil, List.append_assoc]
  refine List.Perm.append_left A ?_
  refine List.perm_append_comm.trans ?_
  refine List.Perm.append_right _ ?_
  rw [show i :: T = [i] ++ T from rfl]
  exact List.perm_append_comm.trans ((List.Perm.refl [i]).append (List.reverse_perm T))

theorem inv_pop {n i : Nat} {s : St} {A T : List Nat} (h : Inv n s) (hs : s.stack = A ++ i :: T) (hi : i ∉ T) : Inv n (popSt i s) := by
  have hp := seenL_pop hs hi
  have e := popSt_spec hs hi
  have e1 : (popSt i s).ord = s.ord := rfl
  have e2 : (popSt i s).next = s.next := rfl
  have e3 : (popSt i s).stack = A := by rw [e]
  have e4 : (popSt i s).on = offs s.on (T.reverse ++ [i]) := by rw [e]
  have e5 : (popSt i s).comps = s.comps ++ [T.reverse ++ [i]] := by rw [e]
  refine ⟨hp.nodup_iff.2 h.nd, fun j hj => h.lt j (hp.mem_iff.1 hj), fun j => ?_, ?_, fun c hc => ?_, fun j => ?_, fun j hj => ?_⟩
  · rw [e1, hp.mem_iff]; exact h.vis j
  · rw [e2, hp.length_eq]; exact h.nx
  · rw [e5] at hc
    rcases List.mem_append.1 hc with hc | hc
    · exact h.ne c hc
    · simp at hc; rw [hc]; simp
  · rw [e3, e4]
    have hnd : (A ++ i :: T).Nodup := by
      have := h.nd
      simp only [seenL, hs] at this
      exact (List.nodup_append.1 this).1
    have hdis := (List.nodup_append.1 hnd).2.2
    have hon := h.on j
    rw [hs] at hon
    simp only [offs, List.mem_append, List.mem_reverse, List.mem_cons, List.not_mem_nil, or_false] at hon ⊢
    by_cases hA : j ∈ A
    · have h1 : j ≠ i := hdis j hA i (by simp)
      have h2 : j ∉ T := fun hT => hdis j hA j (by simp [hT]) rfl
      simp [hA, h1, h2] at hon ⊢
      exact hon
    · by_cases hT : j ∈ T ∨ j = i
      · simp [hT, hA]
      · rw [if_neg hT, hon]
        constructor
        · rintro (h1 | h1 | h1)
          · exact h1
          · exact absurd (Or.inr h1) hT
          · exact absurd (Or.inl h1) hT
        · intro h1; exact .inl h1
  · rw [e1, e2]; exact h.ob j (hp.mem_iff.1 hj)

/-! ### In the middle of a visit of i that began in s -/
structure Mid (n : Nat) (s : St) (i : Nat) (t : St) : Prop where
  inv : Inv n t
  stk : ∃ T, t.stack = s.stack ++ i :: T
  cmp : ∃ C, t.comps = s.comps ++ C
  lt : s.next < t.next
  old : ∀ j, s.ord j ≠ -1 → t.ord j = s.ord j ∧ t.low j = s.low j
  own : t.ord i = s.next
  le : t.low i ≤ s.next
  ge : ∀ m : Int, (∀ j ∈ s.stack, m ≤ s.ord j) → m ≤ s.next → m ≤ t.low i
  new : ∀ j, s.ord j = -1 → t.ord j ≠ -1 → (s.next : Int) ≤ t.ord j

/-- Behind a visit of i that began in s. -/
structure Done (n : Nat) (s : St) (i : Nat) (t : St) : Prop where
  inv : Inv n t
  stk : ∃ T, t.stack = s.stack ++ T
  cmp : ∃ C, t.comps = s.comps ++ C
  lt : s.next < t.next
  old : ∀ j, s.ord j ≠ -1 → t.ord j = s.ord j ∧ t.low j = s.low j
  own : t.ord i = s.next
  ge : ∀ m : Int, (∀ j ∈ s.stack, m ≤ s.ord j) → m ≤ s.next → m ≤ t.low i
  new : ∀ j, s.ord j = -1 → t.ord j ≠ -1 → (s.next : Int) ≤ t.ord j
  root : s.stack = [] → t.stack = []

theorem mid_enter {n i : Nat} {s : St} (h : Inv n s) (hi : i < n) (hv : s.ord i = -1) : Mid n s i (enterSt i s) := by
  refine ⟨inv_enter h hi hv, ⟨[], rfl⟩, ⟨[], by simp [enterSt]⟩, Nat.lt_succ_self _, fun j hj => ?_, upd_same .., Int.le_of_eq (upd_same ..), fun m _ hm => ?_, fun j h1 h2 => ?_⟩
  · have e : j ≠ i := fun e => hj (by rw [e, hv])
    exact ⟨upd_other _ _ _ _ e, upd_other _ _ _ _ e⟩
  · show m ≤ upd s.low i s.next i
    rw [upd_same]; exact hm
  · have h2' : upd s.ord i s.next j ≠ -1 := h2
    show (s.next : Int) ≤ upd s.ord i s.next j
    by_cases e : j = i
    · subst e; rw [upd_same]; exact Int.le_refl _
    · rw [upd_other _ _ _ _ e] at h2'; exact absurd h1 h2'

theorem Mid.low {n i : Nat} {s t : St} (h : Mid n s i t) (hv : s.ord i = -1) (x : Int) (hx : ∀ m : Int, (∀ j ∈ s.stack, m ≤ s.ord j) → m ≤ s.next → m ≤ x) : Mid n s i (lowSt i x t) := by
  refine ⟨inv_low h.inv x, h.stk, h.cmp, h.lt, fun j hj => ?_, h.own, ?_, fun m h1 h2 => ?_, h.new⟩
  · have e : j ≠ i := fun e => hj (by rw [e, hv])
    exact ⟨(h.old j hj).1, (upd_other _ _ _ _ e).trans (h.old j hj).2⟩
  · show upd t.low i (min (t.low i) x) i ≤ _
    rw [upd_same]
    have := h.le
    omega
  · show m ≤ upd t.low i (min (t.low i) x) i
    rw [upd_same]
    have h3 := h.ge m h1 h2
    have h4 := hx m h1 h2
    omega

/-- A node that was seen ahead of the visit and is on the stack now was on it then. -/
theorem stack_was {n : Nat} {s t : St} (hs : Inv n s) (ht : Inv n t) (hc : ∃ C, t.comps = s.comps ++ C) {j : Nat} (hj : j ∈ t.stack) (hv : s.ord j ≠ -1) : j ∈ s.stack := by
  obtain ⟨C, hC⟩ := hc
  have hm := (hs.vis j).1 hv
  simp only [seenL, List.mem_append] at hm
  refine hm.resolve_right fun hf => ?_
  have hnd := ht.nd
  simp only [seenL] at hnd
  exact (List.nodup_append.1 hnd).2.2 j hj j (by rw [hC, List.flatten_append]; exact List.mem_append.2 (.inl hf)) rfl

/-- Every node on the stack in the middle of the visit has a number that is at least m. -/
theorem Mid.stack_ge {n i : Nat} {s t : St} (h : Mid n s i t) (hs : Inv n s) (m : Int) (h1 : ∀ j ∈ s.stack, m ≤ s.ord j) (h2 : m ≤ s.next) : ∀ j ∈ t.stack, m ≤ t.ord j := by
  intro j hj
  by_cases hv : s.ord j = -1
  · have hv' : t.ord j ≠ -1 := (h.inv.vis j).2 (by simp [seenL, hj])
    have := h.new j hv hv'
    omega
  · rw [(h.old j hv).1]
    exact h1 j (stack_was hs h.inv h.cmp hj hv)

/-- One edge. -/
theorem mid_edge {n i j : Nat} {s t : St} {rec : St → Nat → St} (hs : Inv n s) (hi : i < n) (hv : s.ord i = -1) (h : Mid n s i t) (hj : j < n)
    (hrec : t.ord j = -1 → Done n t j (rec t j)) : Mid n s i (edgeSt rec i t j) := by
  unfold edgeSt
  by_cases h1 : t.ord j = -1
  · rw [if_pos h1]
    have hd := hrec h1
    have hvi : t.ord i ≠ -1 := by rw [h.own]; omega
    have hge : ∀ m : Int, (∀ j ∈ s.stack, m ≤ s.ord j) → m ≤ s.next → m ≤ (rec t j).low j := fun m m1 m2 =>
      hd.ge m (h.stack_ge hs m m1 m2) (by have := h.lt; omega)
    refine Mid.low ⟨hd.inv, ?_, ?_, ?_, fun k hk => ?_, ?_, ?_, fun m m1 m2 => ?_, fun k k1 k2 => ?_⟩ hv _ hge
    · obtain ⟨T, hT⟩ := h.stk
      obtain ⟨U, hU⟩ := hd.stk
      exact ⟨T ++ U, by rw [hU, hT]; simp⟩
    · obtain ⟨C, hC⟩ := h.cmp
      obtain ⟨D, hD⟩ := hd.cmp
      exact ⟨C ++ D, by rw [hD, hC]; simp⟩
    · exact Nat.lt_trans h.lt hd.lt
    · have ho := h.old k hk
      have hd' := hd.old k (by rw [ho.1]; exact hk)
      exact ⟨hd'.1.trans ho.1, hd'.2.trans ho.2⟩
    · rw [(hd.old i hvi).1]; exact h.own
    · rw [(hd.old i hvi).2]; exact h.le
    · rw [(hd.old i hvi).2]; exact h.ge m m1 m2
    · by_cases hk : t.ord k = -1
      · have := hd.new k hk k2
        have := h.lt
        omega
      · rw [(hd.old k hk).1]; exact h.new k k1 hk
  · rw [if_neg h1]
    by_cases h2 : t.on j = true
    · rw [if_pos h2]
      exact h.low hv _ fun m m1 m2 => h.stack_ge hs m m1 m2 j ((h.inv.on j).1 h2)
    · rw [if_neg h2]; exact h

theorem mid_edges {n i : Nat} {s : St} {rec : St → Nat → St} (hs : Inv n s) (hi : i < n) (hv : s.ord i = -1)
    (hrec : ∀ t j, Mid n s i t → j < n → t.ord j = -1 → Done n t j (rec t j)) :
    ∀ (l : List Nat) (t : St), (∀ j ∈ l, j < n) → Mid n s i t → Mid n s i (l.foldl (edgeSt rec i) t)
  | [], _, _, h => h
  | j :: l, t, hl, h => by
    rw [List.foldl_cons]
    exact mid_edges hs hi hv hrec l _ (fun k hk => hl k (List.mem_cons_of_mem _ hk))
      (mid_edge hs hi hv h (hl j (List.mem_cons_self ..)) (hrec t j h (hl j (List.mem_cons_self ..))))

theorem Mid.split {n i : Nat} {s t : St} (h : Mid n s i t) : ∃ T, t.stack = s.stack ++ i :: T ∧ i ∉ T := by
  obtain ⟨T, hT⟩ := h.stk
  refine ⟨T, hT, fun hm => ?_⟩
  have hnd := h.inv.nd
  simp only [seenL, hT] at hnd
  have := (List.nodup_append.1 (List.nodup_append.1 hnd).1).2.1
  exact (List.nodup_cons.1 this).1 hm

theorem done_leave {n i : Nat} {s t : St} (hs : Inv n s) (h : Mid n s i t) : Done n s i (leaveSt i t) := by
  obtain ⟨T, hT, hiT⟩ := h.split
  unfold leaveSt
  by_cases he : t.low i = t.ord i
  · rw [if_pos he]
    have e := popSt_spec hT hiT
    refine ⟨inv_pop h.inv hT hiT, ⟨[], ?_⟩, ?_, h.lt, h.old, h.own, h.ge, h.new, fun h0 => ?_⟩
    · rw [e]; simp
    · obtain ⟨C, hC⟩ := h.cmp
      exact ⟨C ++ [T.reverse ++ [i]], by rw [e]; simp [hC]⟩
    · rw [e]; exact h0
  · rw [if_neg he]
    refine ⟨h.inv, ⟨i :: T, hT⟩, h.cmp, h.lt, h.old, h.own, h.ge, h.new, fun h0 => ?_⟩
    exfalso
    have h1 := h.ge s.next (by rw [h0]; simp) (Int.le_refl _)
    have h2 := h.le
    rw [h.own] at he
    omega

theorem visit_done (n : Nat) (g : Nat → List Nat) (hg : ∀ i, ∀ j ∈ g i, j < n) : ∀ (f : Nat) (s : St) (i : Nat), Inv n s → i < n → s.ord i = -1 → n - s.next ≤ f → Done n s i (visitSt g f s i)
  | 0, s, i, hs, hi, hv, hf => by have := hs.next_lt hi hv; omega
  | f + 1, s, i, hs, hi, hv, hf => by
    rw [visitSt]
    refine done_leave hs (mid_edges hs hi hv (fun t j ht hj hvj => ?_) _ _ (hg i) (mid_enter hs hi hv))
    exact visit_done n g hg f t j ht.inv hj hvj (by have := ht.lt; omega)

/-- The state in the middle of a visit, when the first k edges are done. -/
def midSt (g : Nat → List Nat) (f : Nat) (s : St) (i k : Nat) : St := ((g i).take k).foldl (edgeSt (visitSt g f) i) (enterSt i s)

theorem midSt_zero (g : Nat → List Nat) (f : Nat) (s : St) (i : Nat) : midSt g f s i 0 = enterSt i s := by simp [midSt]
theorem midSt_succ (g : Nat → List Nat) (f : Nat) (s : St) (i k : Nat) (hk : k < (g i).length) : midSt g f s i (k + 1) = edgeSt (visitSt g f) i (midSt g f s i k) (g i)[k] := by
  simp only [midSt]
  rw [List.take_succ_eq_append_getElem hk, List.foldl_append]
  rfl
theorem midSt_all (g : Nat → List Nat) (f : Nat) (s : St) (i : Nat) : visitSt g (f + 1) s i = leaveSt i (midSt g f s i (g i).length) := by
  rw [visitSt, midSt, List.take_of_length_le (Nat.le_refl _)]

theorem mid_at {n : Nat} {g : Nat → List Nat} (hg : ∀ i, ∀ j ∈ g i, j < n) {f : Nat} {s : St} {i : Nat} (hs : Inv n s) (hi : i < n) (hv : s.ord i = -1) (hf : n - s.next ≤ f + 1) (k : Nat) : Mid n s i (midSt g f s i k) :=
  mid_edges hs hi hv (fun t j ht hj hvj => visit_done n g hg f t j ht.inv hj hvj (by have := ht.lt; omega)) _ _ (fun j hj => hg i j (List.mem_of_mem_take hj)) (mid_enter hs hi hv)

end Go.Proofs.Qxb6627646a
