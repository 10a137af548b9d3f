/-
  PLAIN: the depth-first search that writes a node down when its edges are done; its run with an explicit stack; and the components' search on a graph without cycles.
-/
import Derived.Test.Qxb6627646aPlain
namespace Go.Proofs.Qxb6627646a
set_option linter.unusedVariables false

structure Df where
  seen : Nat → Bool
  out : List Nat

def markD (i : Nat) (d : Df) : Df := { d with seen := upd d.seen i true }
def putD (i : Nat) (d : Df) : Df := { d with out := d.out ++ [i] }
def edgeD (rec : Df → Nat → Df) (d : Df) (j : Nat) : Df := if d.seen j = true then d else rec d j

def dfs (g : Nat → List Nat) : Nat → Df → Nat → Df
  | 0, d, _ => d
  | f + 1, d, i => putD i ((g i).foldl (edgeD (dfs g f)) (markD i d))

/-- How many of the first n nodes are not yet seen, each weighing so much. -/
def unseen (wt : Nat → Nat) : Nat → (Nat → Bool) → Nat
  | 0, _ => 0
  | n + 1, seen => unseen wt n seen + (if seen n = true then 0 else wt n)

theorem unseen_mono (wt : Nat → Nat) {s t : Nat → Bool} (h : ∀ j, s j = true → t j = true) : ∀ n, unseen wt n t ≤ unseen wt n s
  | 0 => Nat.le_refl _
  | n + 1 => by
    have ih := unseen_mono wt h n
    unfold unseen
    by_cases hs : s n = true
    · rw [if_pos hs, if_pos (h n hs)]; omega
    · rw [if_neg hs]
      by_cases ht : t n = true
      · rw [if_pos ht]; omega
      · rw [if_neg ht]; omega

theorem unseen_beyond (wt : Nat → Nat) (s : Nat → Bool) (i : Nat) : ∀ n, n ≤ i → unseen wt n (upd s i true) = unseen wt n s
  | 0, _ => rfl
  | n + 1, h => by
    unfold unseen
    rw [unseen_beyond wt s i n (by omega), upd_other _ _ _ _ (by omega)]

theorem unseen_mark (wt : Nat → Nat) (s : Nat → Bool) (i : Nat) (hv : s i = false) : ∀ n, i < n → unseen wt n (upd s i true) + wt i = unseen wt n s
  | 0, h => absurd h (Nat.not_lt_zero _)
  | n + 1, h => by
    unfold unseen
    by_cases e : n = i
    · subst e
      rw [unseen_beyond wt s n n (Nat.le_refl _), upd_same, if_pos rfl, hv, if_neg (by decide)]; omega
    · have := unseen_mark wt s i hv n (by omega)
      rw [upd_other _ _ _ _ e]; omega

theorem unseen_le (s : Nat → Bool) : ∀ n, unseen (fun _ => 1) n s ≤ n
  | 0 => Nat.le_refl _
  | n + 1 => by
    have := unseen_le s n
    unfold unseen
    split <;> omega

theorem dfs_seen (g : Nat → List Nat) : ∀ (f : Nat) (d : Df) (i j : Nat), d.seen j = true → (dfs g f d i).seen j = true
  | 0, d, i, j, h => h
  | f + 1, d, i, j, h => by
    have key : ∀ (l : List Nat) (e : Df), e.seen j = true → (l.foldl (edgeD (dfs g f)) e).seen j = true := by
      intro l
      induction l with
      | nil => intro e he; exact he
      | cons k l ih =>
        intro e he
        refine ih _ ?_
        unfold edgeD
        by_cases hk : e.seen k = true
        · rw [if_pos hk]; exact he
        · rw [if_neg hk]; exact dfs_seen g f e k j he
    rw [dfs]
    refine key (g i) _ ?_
    show upd d.seen i true j = true
    by_cases e : j = i
    · rw [e, upd_same]
    · rw [upd_other _ _ _ _ e]; exact h

theorem edges_seen (g : Nat → List Nat) (f j : Nat) : ∀ (l : List Nat) (e : Df), e.seen j = true → (l.foldl (edgeD (dfs g f)) e).seen j = true
  | [], _, he => he
  | k :: l, e, he => by
    rw [List.foldl_cons]
    refine edges_seen g f j l _ ?_
    unfold edgeD
    by_cases hk : e.seen k = true
    · rw [if_pos hk]; exact he
    · rw [if_neg hk]; exact dfs_seen g f e k j he

/-- The search does not hang on the fuel, if it is enough. -/
theorem dfs_fuel (n : Nat) (g : Nat → List Nat) (hg : ∀ i, ∀ j ∈ g i, j < n) :
    ∀ (f f' : Nat) (d : Df) (i : Nat), i < n → d.seen i = false → unseen (fun _ => 1) n d.seen ≤ f → unseen (fun _ => 1) n d.seen ≤ f' → dfs g f d i = dfs g f' d i
  | 0, _, d, i, hi, hv, h, _ => by have := unseen_mark (fun _ => 1) d.seen i hv n hi; omega
  | f + 1, 0, d, i, hi, hv, _, h => by have := unseen_mark (fun _ => 1) d.seen i hv n hi; omega
  | f + 1, f' + 1, d, i, hi, hv, hf, hf' => by
    have hm := unseen_mark (fun _ => 1) d.seen i hv n hi
    have key : ∀ (l : List Nat) (e : Df), (∀ j ∈ l, j < n) → unseen (fun _ => 1) n e.seen ≤ f → unseen (fun _ => 1) n e.seen ≤ f' → l.foldl (edgeD (dfs g f)) e = l.foldl (edgeD (dfs g f')) e := by
      intro l
      induction l with
      | nil => intro e _ _ _; rfl
      | cons k l ih =>
        intro e hl h1 h2
        have hk := hl k (List.mem_cons_self ..)
        have he : edgeD (dfs g f) e k = edgeD (dfs g f') e k := by
          unfold edgeD
          by_cases hs : e.seen k = true
          · rw [if_pos hs, if_pos hs]
          · rw [if_neg hs, if_neg hs]
            exact dfs_fuel n g hg f f' e k hk (by simpa using hs) h1 h2
        rw [List.foldl_cons, List.foldl_cons, he]
        have hmo : unseen (fun _ => 1) n (edgeD (dfs g f') e k).seen ≤ unseen (fun _ => 1) n e.seen := by
          refine unseen_mono _ (fun j hj => ?_) n
          unfold edgeD
          by_cases hs : e.seen k = true
          · rw [if_pos hs]; exact hj
          · rw [if_neg hs]; exact dfs_seen g f' e k j hj
        exact ih _ (fun j hj => hl j (List.mem_cons_of_mem _ hj)) (by omega) (by omega)
    rw [dfs, dfs, key (g i) (markD i d) (hg i) (by show unseen _ n (upd d.seen i true) ≤ f; omega) (by show unseen _ n (upd d.seen i true) ≤ f'; omega)]

/-! ### With an explicit stack: frames (node, next edge), the top first -/
def fin (g : Nat → List Nat) (F : Nat) : Df → List (Nat × Nat) → Df
  | d, [] => d
  | d, x :: fs => fin g F (putD x.1 (((g x.1).drop x.2).foldl (edgeD (dfs g F)) d)) fs

theorem fin_root (g : Nat → List Nat) (F : Nat) (d : Df) (s : Nat) : fin g F (markD s d) [(s, 0)] = dfs g (F + 1) d s := by simp [fin, dfs]

theorem fin_seen (g : Nat → List Nat) (F : Nat) (d : Df) (v p : Nat) (fs : List (Nat × Nat)) (hp : p < (g v).length) (hs : d.seen (g v)[p] = true) : fin g F d ((v, p) :: fs) = fin g F d ((v, p + 1) :: fs) := by
  simp only [fin]
  rw [List.drop_eq_getElem_cons hp, List.foldl_cons]
  rw [show edgeD (dfs g F) d (g v)[p] = d from by unfold edgeD; rw [if_pos hs]]

theorem fin_new (n : Nat) (g : Nat → List Nat) (hg : ∀ i, ∀ j ∈ g i, j < n) (d : Df) (v p : Nat) (fs : List (Nat × Nat)) (hp : p < (g v).length) (hs : d.seen (g v)[p] = false) :
    fin g n d ((v, p) :: fs) = fin g n (markD (g v)[p] d) (((g v)[p], 0) :: (v, p + 1) :: fs) := by
  simp only [fin]
  rw [List.drop_eq_getElem_cons hp, List.foldl_cons, List.drop_zero]
  have e : edgeD (dfs g n) d (g v)[p] = putD (g v)[p] ((g (g v)[p]).foldl (edgeD (dfs g n)) (markD (g v)[p] d)) := by
    unfold edgeD
    rw [if_neg (by rw [hs]; decide), dfs_fuel n g hg n (n + 1) d (g v)[p] (hg v _ (List.getElem_mem hp)) hs (unseen_le _ _) (by have := unseen_le d.seen n; omega), dfs]
    rfl
  rw [e]

theorem fin_done (g : Nat → List Nat) (F : Nat) (d : Df) (v p : Nat) (fs : List (Nat × Nat)) (hp : ¬ p < (g v).length) : fin g F d ((v, p) :: fs) = fin g F (putD v d) fs := by
  simp only [fin]
  rw [List.drop_of_length_le (by omega), List.foldl_nil]

/-- What is still to come, as a number that every step lowers. -/
def togo (g : Nat → List Nat) (n : Nat) (d : Df) (fs : List (Nat × Nat)) : Nat :=
  unseen (fun j => (g j).length + 2) n d.seen + (fs.map (fun x => (g x.1).length - x.2 + 1)).sum

/-- One root. -/
def rootD (g : Nat → List Nat) (n : Nat) (d : Df) (i : Nat) : Df := if d.seen i = true then d else dfs g (n + 1) d i
def rootsD (g : Nat → List Nat) (n k : Nat) : Df := (List.range k).foldl (rootD g n) { seen := fun _ => false, out := [] }
theorem rootsD_succ (g : Nat → List Nat) (n k : Nat) : rootsD g n (k + 1) = rootD g n (rootsD g n k) k := by simp [rootsD, List.range_succ]

/-! ### On a graph without cycles: rk falls along every edge -/
/-- The list L is an order: each node stands behind all that it has edges to. -/
def TopL (g : Nat → List Nat) (L : List Nat) : Prop := ∀ (q i : Nat), L[q]? = some i → ∀ j ∈ g i, j ∈ L.take q

theorem topL_snoc {g : Nat → List Nat} {L : List Nat} {i : Nat} (h : TopL g L) (hi : ∀ j ∈ g i, j ∈ L) : TopL g (L ++ [i]) := by
  intro q k hq j hj
  rw [List.getElem?_append] at hq
  by_cases hlt : q < L.length
  · rw [if_pos hlt] at hq
    rw [List.take_append_of_le_length (by omega)]
    exact h q k hq j hj
  · rw [if_neg hlt] at hq
    have hk := (List.getElem?_eq_some_iff.1 hq).1
    simp at hk
    have : q = L.length := by omega
    subst this
    simp at hq
    subst hq
    simpa using hi j hj

structure Rel (s : St) (d : Df) : Prop where
  seen : ∀ j, d.seen j = true ↔ s.ord j ≠ -1
  out : s.comps.flatten = d.out

theorem Rel.unseen {s : St} {d : Df} (h : Rel s d) (j : Nat) : d.seen j = false ↔ s.ord j = -1 := by
  rw [Bool.eq_false_iff, Ne, h.seen j]
  constructor
  · intro h1; exact Classical.byContradiction h1
  · intro h1 h2; exact h2 h1

/-- In the middle of a visit of i. -/
structure Half (g : Nat → List Nat) (s : St) (i : Nat) (t : St) (d : Df) : Prop where
  stk : t.stack = s.stack ++ [i]
  low : t.low i = s.next
  rel : Rel t d
  top : TopL g d.out

theorem visit_acyc (n : Nat) (g : Nat → List Nat) (hg : ∀ i, ∀ j ∈ g i, j < n) (rk : Nat → Nat) (hrk : ∀ i, i < n → ∀ j ∈ g i, rk j < rk i) :
    ∀ (f : Nat) (s : St) (d : Df) (i : Nat), Inv n s → i < n → s.ord i = -1 → n - s.next ≤ f → (∀ k ∈ s.stack, rk i < rk k) → Rel s d → TopL g d.out →
      (visitSt g f s i).stack = s.stack ∧ (visitSt g f s i).low i = s.next ∧ Rel (visitSt g f s i) (dfs g f d i) ∧ TopL g (dfs g f d i).out
  | 0, s, d, i, hs, hi, hv, hf, _, _, _ => by have := hs.next_lt hi hv; omega
  | f + 1, s, d, i, hs, hi, hv, hf, hst, hr, ht => by
    have key : ∀ (l : List Nat) (t : St) (e : Df), (∀ j ∈ l, j ∈ g i) → Mid n s i t → Half g s i t e →
        Mid n s i (l.foldl (edgeSt (visitSt g f) i) t) ∧ Half g s i (l.foldl (edgeSt (visitSt g f) i) t) (l.foldl (edgeD (dfs g f)) e) ∧ ∀ j ∈ l, (l.foldl (edgeD (dfs g f)) e).seen j = true := by
      intro l
      induction l with
      | nil => intro t e _ hm hh; exact ⟨hm, hh, by simp⟩
      | cons j l ih =>
        intro t e hl hm hh
        have hjg := hl j (List.mem_cons_self ..)
        have hj := hg i j hjg
        have hrj := hrk i hi j hjg
        have hmid := mid_edge hs hi hv hm hj (fun h1 => visit_done n g hg f t j hm.inv hj h1 (by have := hm.lt; omega))
        have hhalf : Half g s i (edgeSt (visitSt g f) i t j) (edgeD (dfs g f) e j) ∧ (edgeD (dfs g f) e j).seen j = true := by
          unfold edgeSt edgeD
          by_cases h1 : t.ord j = -1
          · have hd := visit_done n g hg f t j hm.inv hj h1 (by have := hm.lt; omega)
            have hsn : ¬ e.seen j = true := by rw [(hh.rel.unseen j).2 h1]; decide
            rw [if_pos h1, if_neg hsn]
            obtain ⟨r1, r2, r3, r4⟩ := visit_acyc n g hg rk hrk f t e j hm.inv hj h1 (by have := hm.lt; omega) (by
              intro k hk
              rw [hh.stk] at hk
              rcases List.mem_append.1 hk with hk | hk
              · have := hst k hk; omega
              · rw [List.mem_singleton.1 hk]; exact hrj) hh.rel hh.top
            have hvi : t.ord i ≠ -1 := by rw [hm.own]; omega
            refine ⟨⟨by rw [← hh.stk]; exact r1, ?_, ⟨r3.seen, r3.out⟩, r4⟩, ?_⟩
            · show upd _ i _ i = _
              rw [upd_same, (hd.old i hvi).2, hh.low, r2]
              have := hm.lt
              omega
            · exact (r3.seen j).2 (by rw [hd.own]; omega)
          · have hsn : e.seen j = true := (hh.rel.seen j).2 h1
            rw [if_neg h1, if_pos hsn]
            have hon : ¬ t.on j = true := by
              intro hc
              have := (hm.inv.on j).1 hc
              rw [hh.stk] at this
              rcases List.mem_append.1 this with hk | hk
              · have := hst j hk; omega
              · have := List.mem_singleton.1 hk; subst this; omega
            rw [if_neg hon]
            exact ⟨hh, hsn⟩
        rw [List.foldl_cons, List.foldl_cons]
        obtain ⟨k1, k2, k3⟩ := ih _ _ (fun k hk => hl k (List.mem_cons_of_mem _ hk)) hmid hhalf.1
        refine ⟨k1, k2, fun k hk => ?_⟩
        rcases List.mem_cons.1 hk with rfl | hk
        · exact edges_seen g f _ l _ hhalf.2
        · exact k3 k hk
    have hni : d.seen i = false := (hr.unseen i).2 hv
    obtain ⟨m1, m2, m3⟩ := key (g i) (enterSt i s) (markD i d) (fun j hj => hj) (mid_enter hs hi hv) ⟨rfl, upd_same .., ⟨fun j => by
        show upd d.seen i true j = true ↔ upd s.ord i s.next j ≠ -1
        by_cases e : j = i
        · subst e; rw [upd_same, upd_same]; simp
        · rw [upd_other _ _ _ _ e, upd_other _ _ _ _ e]; exact hr.seen j, hr.out⟩, ht⟩
    rw [visitSt, dfs]
    generalize hT : (g i).foldl (edgeSt (visitSt g f) i) (enterSt i s) = t at m1 m2 ⊢
    generalize hE : (g i).foldl (edgeD (dfs g f)) (markD i d) = e at m2 m3 ⊢
    have hstk : t.stack = s.stack ++ i :: [] := m2.stk
    have hle : t.low i = t.ord i := by rw [m2.low, m1.own]
    rw [leaveSt, if_pos hle, popSt_spec hstk (by simp)]
    refine ⟨rfl, m2.low, ⟨m2.rel.seen, ?_⟩, ?_⟩
    · show (t.comps ++ [[].reverse ++ [i]]).flatten = e.out ++ [i]
      rw [List.flatten_append, m2.rel.out]
      simp
    · show TopL g (e.out ++ [i])
      refine topL_snoc m2.top (fun j hj => ?_)
      have h1 := (m2.rel.seen j).1 (m3 j hj)
      have h2 := (m1.inv.vis j).1 h1
      simp only [seenL, m2.rel.out, m2.stk, List.mem_append, List.mem_singleton] at h2
      have hrj := hrk i hi j hj
      rcases h2 with (h2 | h2) | h2
      · have := hst j h2; omega
      · subst h2; omega
      · exact h2

theorem roots_acyc (n : Nat) (g : Nat → List Nat) (hg : ∀ i, ∀ j ∈ g i, j < n) (rk : Nat → Nat) (hrk : ∀ i, i < n → ∀ j ∈ g i, rk j < rk i) (hroots : ∀ k, k ≤ n → Inv n ((List.range k).foldl (rootSt g n) startSt) ∧ ((List.range k).foldl (rootSt g n) startSt).stack = []) :
    ∀ k, k ≤ n → Rel ((List.range k).foldl (rootSt g n) startSt) (rootsD g n k) ∧ TopL g (rootsD g n k).out
  | 0, _ => ⟨⟨by simp [startSt, rootsD], by simp [startSt, rootsD]⟩, by intro q i h; simp [rootsD] at h⟩
  | k + 1, hk => by
    obtain ⟨h1, h2⟩ := roots_acyc n g hg rk hrk hroots k (by omega)
    obtain ⟨i1, i2⟩ := hroots k (by omega)
    rw [rootsD_succ, List.range_succ, List.foldl_append, List.foldl_cons, List.foldl_nil]
    generalize (List.range k).foldl (rootSt g n) startSt = s at h1 i1 i2 ⊢
    generalize rootsD g n k = d at h1 h2 ⊢
    unfold rootSt rootD
    by_cases hv : s.ord k = -1
    · have hsn : ¬ d.seen k = true := by rw [(h1.unseen k).2 hv]; decide
      rw [if_pos hv, if_neg hsn]
      obtain ⟨_, _, r3, r4⟩ := visit_acyc n g hg rk hrk n s d k i1 (by omega) hv (by omega) (by rw [i2]; simp) h1 h2
      have hu := unseen_le d.seen n
      rw [← dfs_fuel n g hg n (n + 1) d k (by omega) ((h1.unseen k).2 hv) hu (by omega)]
      exact ⟨r3, r4⟩
    · have hsn : d.seen k = true := (h1.seen k).2 hv
      rw [if_neg hv, if_pos hsn]
      exact ⟨h1, h2⟩

end Go.Proofs.Qxb6627646a
