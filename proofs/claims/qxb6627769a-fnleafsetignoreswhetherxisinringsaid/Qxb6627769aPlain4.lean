/-
  The ring with x put in, and with x taken out. No program here.
-/
import Derived.Test.Qxb6627769aPlain3
namespace Go.Proofs.Qxb6627769a
set_option linter.unusedVariables false

/-- What the law's first loop has built behind k ids: the ring with x, the ring without, whether x is placed. -/
def wplaced (x : Int) (f : Nat → Int) : Nat → Bool
  | 0 => false
  | k + 1 => wplaced x f k || decide (x ≤ f k)
def wwith (x : Int) (f : Nat → Int) : Nat → List Int
  | 0 => []
  | k + 1 => wwith x f k ++ (if wplaced x f k = false ∧ x ≤ f k then [x] else []) ++ (if f k = x then [] else [f k])
def wout (x : Int) (f : Nat → Int) : Nat → List Int
  | 0 => []
  | k + 1 => wout x f k ++ (if f k = x then [] else [f k])
/-- The whole ring with x. -/
def wall (x : Int) (f : Nat → Int) (n : Nat) : List Int := wwith x f n ++ (if wplaced x f n then [] else [x])

theorem wout_le (x : Int) (f : Nat → Int) (k : Nat) : (wout x f k).length ≤ k := by
  induction k with
  | zero => simp [wout]
  | succ k ih => unfold wout; split <;> simp <;> omega
theorem wwith_le (x : Int) (f : Nat → Int) (k : Nat) : (wwith x f k).length ≤ k + (if wplaced x f k then 1 else 0) := by
  induction k with
  | zero => simp [wwith]
  | succ k ih =>
    have e1 : wwith x f (k + 1) = wwith x f k ++ (if wplaced x f k = false ∧ x ≤ f k then [x] else []) ++ (if f k = x then [] else [f k]) := rfl
    have e2 : wplaced x f (k + 1) = (wplaced x f k || decide (x ≤ f k)) := rfl
    rw [e1, e2]
    cases hp : wplaced x f k
    · rw [hp] at ih
      by_cases h1 : x ≤ f k
      · by_cases h2 : f k = x <;> simp [h1, h2] <;> simp at ih <;> omega
      · by_cases h2 : f k = x
        · omega
        · simp [h1, h2]; simp at ih; omega
    · rw [hp] at ih
      by_cases h2 : f k = x <;> simp [h2] <;> simp at ih <;> omega

section
variable {x : Int} {f : Nat → Int} {n l : Nat}

def loL (x : Int) (f : Nat → Int) (k : Nat) : List Int := (upto f k).filter (fun y => decide (y < x))
def hiL (x : Int) (f : Nat → Int) (k : Nat) : List Int := (upto f k).filter (fun y => decide (x < y))

theorem w_state (hG : Grows f n) : ∀ k, k ≤ n → wout x f k = loL x f k ++ hiL x f k ∧ wwith x f k = loL x f k ++ (if wplaced x f k then [x] else []) ++ hiL x f k ∧ (wplaced x f k = false → hiL x f k = [] ∧ ∀ j, j < k → f j < x) ∧ (wplaced x f k = true → ∃ j, j < k ∧ x ≤ f j) := by
  intro k
  induction k with
  | zero => intro _; simp [wout, wwith, loL, hiL, upto, wplaced]
  | succ k ih =>
    intro hk
    obtain ⟨h1, h2, h3, h4⟩ := ih (by omega)
    have eL : loL x f (k + 1) = loL x f k ++ (if f k < x then [f k] else []) := by
      unfold loL
      rw [upto_succ, List.filter_append]
      congr 1
      by_cases h : f k < x <;> simp [h]
    have eH : hiL x f (k + 1) = hiL x f k ++ (if x < f k then [f k] else []) := by
      unfold hiL
      rw [upto_succ, List.filter_append]
      congr 1
      by_cases h : x < f k <;> simp [h]
    rw [eL, eH]
    unfold wout wwith
    rw [h1, h2]
    have eP : wplaced x f (k + 1) = (wplaced x f k || decide (x ≤ f k)) := rfl
    cases hp : wplaced x f k
    · obtain ⟨h5, h6⟩ := h3 hp
      rw [h5] at *
      rw [eP, hp]
      by_cases hle : x ≤ f k
      · by_cases he : f k = x
        · simp [he]
          exact ⟨k, Nat.lt_succ_self k, by omega⟩
        · have hlt : x < f k := by omega
          have hnl : ¬ f k < x := by omega
          simp [he, hle, hlt, hnl]
          exact ⟨k, Nat.lt_succ_self k, hle⟩
      · have he : f k ≠ x := by omega
        have hlt : ¬ x < f k := by omega
        have hnl : f k < x := by omega
        simp [he, hle, hlt, hnl]
        intro j hj
        rcases Nat.lt_or_ge j k with h | h
        · exact h6 j h
        · obtain rfl : j = k := by omega
          exact hnl
    · obtain ⟨j, hj, hjx⟩ := h4 hp
      have := hG j k hj (by omega)
      have he : f k ≠ x := by omega
      have hlt : x < f k := by omega
      have hnl : ¬ f k < x := by omega
      rw [eP, hp]
      simp [he, hlt, hnl]
      exact ⟨j, by omega, hjx⟩

theorem w_out (hG : Grows f n) : wout x f n = loL x f n ++ hiL x f n := (w_state hG n (Nat.le_refl _)).1
theorem w_all (hG : Grows f n) : wall x f n = loL x f n ++ [x] ++ hiL x f n := by
  obtain ⟨h1, h2, h3, h4⟩ := w_state (x := x) hG n (Nat.le_refl _)
  unfold wall
  rw [h2]
  cases hp : wplaced x f n
  · rw [(h3 hp).1]
    simp
  · simp

theorem lo_lt {y : Int} (h : y ∈ loL x f n) : y < x := by
  have := (List.mem_filter.1 h).2
  simpa using this
theorem hi_lt {y : Int} (h : y ∈ hiL x f n) : x < y := by
  have := (List.mem_filter.1 h).2
  simpa using this
theorem lo_mem {y : Int} (h : y ∈ loL x f n) : ∃ j, j < n ∧ f j = y := upto_mem (List.mem_filter.1 h).1
theorem hi_mem {y : Int} (h : y ∈ hiL x f n) : ∃ j, j < n ∧ f j = y := upto_mem (List.mem_filter.1 h).1

theorem rings (hG : Grows f n) (hu : ∀ j, j < n → 0 ≤ f j ∧ f j < 18446744073709551616) (hx : 0 ≤ x ∧ x < 18446744073709551616) : Ring x (wall x f n) (loL x f n) (hiL x f n) true ∧ Ring x (wout x f n) (loL x f n) (hiL x f n) false := by
  have ha : Asc (loL x f n) := List.Pairwise.sublist List.filter_sublist (upto_asc hG)
  have hc : Asc (hiL x f n) := List.Pairwise.sublist List.filter_sublist (upto_asc hG)
  have ua : U64 (loL x f n) := fun y hy => by obtain ⟨j, hj, rfl⟩ := lo_mem hy; exact hu j hj
  have uc : U64 (hiL x f n) := fun y hy => by obtain ⟨j, hj, rfl⟩ := hi_mem hy; exact hu j hj
  exact ⟨⟨⟨w_all hG, fun y hy => lo_lt hy, fun y hy => hi_lt hy⟩, ha, hc, ua, uc, hx⟩, ⟨⟨by rw [w_out hG]; simp, fun y hy => lo_lt hy, fun y hy => hi_lt hy⟩, ha, hc, ua, uc, hx⟩⟩

theorem cut_same {r s a c : List Int} {fr fs : Bool} (h : Cut x r a c fr) (k : Cut x s a c fs) : lsl x r l = lsl x s l := by
  have e1 : others x r = others x s := by rw [h.others_eq, k.others_eq]
  have e2 : ∀ y, cw x r y = cw x s y := fun y => by
    unfold cw
    rw [h.count _ (by simp), k.count _ (by simp)]
  have e3 : ∀ y, ccw x r y = ccw x s y := fun y => by
    unfold ccw
    rw [h.count _ (by simp), k.count _ (by simp)]
  have e4 : near x r l = near x s l := by
    funext y
    unfold near
    rw [e1, e2, e3]
  unfold lsl
  rw [e4, h.filt _ (by simp), k.filt _ (by simp)]

theorem Ring.len {r a c : List Int} {fd : Bool} (h : Ring x r a c fd) : (lsl x r l).length = if 2 * l < (a ++ c).length then 2 * l else (a ++ c).length := by
  have ho := h.cut.others_eq
  have hlen : (a ++ c).length = a.length + c.length := List.length_append
  by_cases hl : 2 * l < (a ++ c).length
  · rw [if_pos hl, ← (h.many (l := l) (by omega)).length_eq]
    simp
    omega
  · rw [if_neg hl, h.few (by omega)]

theorem Ring.asc {r a c : List Int} {fd : Bool} (h : Ring x r a c fd) : Asc r := by
  rw [h.cut.eq]
  unfold Asc
  rw [List.pairwise_append, List.pairwise_append]
  refine ⟨⟨h.ha, by cases fd <;> simp, ?_⟩, h.hc, ?_⟩
  · intro y hy z hz
    cases fd with
    | true => simp at hz; rw [hz]; exact h.cut.lo y hy
    | false => simp at hz
  · intro y hy z hz
    have h1 := h.cut.hi z hz
    rcases List.mem_append.1 hy with h2 | h2
    · have := h.cut.lo y h2
      omega
    · cases fd with
      | true => simp at h2; rw [h2]; exact h1
      | false => simp at h2

theorem Ring.u64 {r a c : List Int} {fd : Bool} (h : Ring x r a c fd) : U64 r := by
  intro y hy
  rw [h.cut.eq] at hy
  rcases List.mem_append.1 hy with h1 | h1
  · rcases List.mem_append.1 h1 with h2 | h2
    · exact h.ua y h2
    · cases fd with
      | true => simp at h2; rw [h2]; exact h.ux
      | false => simp at h2
  · exact h.uc y h1

theorem grows_of_asc {L : List Int} (h : Asc L) : Grows (fun j => L.getD j 0) L.length := by
  intro i j hij hj
  have := asc_lt h (by omega : i < L.length) hj hij
  simp [hj, show i < L.length by omega, this]
theorem u64_of {L : List Int} (h : U64 L) (j : Nat) (hj : j < L.length) : 0 ≤ L.getD j 0 ∧ L.getD j 0 < 18446744073709551616 := by
  have := h L[j] (List.getElem_mem hj)
  simpa [hj] using this

/-- All that the law asks of the leafset. -/
structure Good (x : Int) (f : Nat → Int) (n l : Nat) (L : List Int) (N : Nat) (m : Nat) : Prop where
  len : L.length = N
  m_eq : m = (wout x f n).length
  N_eq : N = if 2 * l < m then 2 * l else m
  ne : ∀ k, k < N → L.getD k 0 ≠ x
  up : ∀ i j, i < j → j < N → L.getD i 0 < L.getD j 0
  mem : ∀ k, k < N → ∃ j, j < n ∧ f j = L.getD k 0

theorem good (hG : Grows f n) (hu : ∀ j, j < n → 0 ≤ f j ∧ f j < 18446744073709551616) (hx : 0 ≤ x ∧ x < 18446744073709551616) :
    Good x f n l (lsl x (wall x f n) l) (lsl x (wall x f n) l).length (wout x f n).length ∧ lsl x (wout x f n) l = lsl x (wall x f n) l := by
  obtain ⟨h1, h2⟩ := rings hG hu hx
  have e := cut_same (l := l) h2.cut h1.cut
  refine ⟨⟨rfl, rfl, ?_, ?_, ?_, ?_⟩, e⟩
  · rw [h1.len, w_out hG]
  · intro k hk
    have hm : (lsl x (wall x f n) l)[k] ∈ lsl x (wall x f n) l := List.getElem_mem hk
    have := (List.mem_filter.1 hm).2
    simp at this
    simp [hk]
    exact this.1
  · exact grows_of_asc (lsl_asc h1.asc)
  · intro k hk
    rw [← e] at hk ⊢
    have hm : (lsl x (wout x f n) l)[k] ∈ lsl x (wout x f n) l := List.getElem_mem hk
    have hm2 := (List.mem_filter.1 hm).1
    have ha : ∀ y ∈ wout x f n, ∃ j, j < n ∧ f j = y := fun y hy => by
      rw [w_out hG] at hy
      rcases List.mem_append.1 hy with h | h
      · exact lo_mem h
      · exact hi_mem h
    obtain ⟨j, hj, he⟩ := ha _ hm2
    exact ⟨j, hj, by rw [he]; simp [hk]⟩
end
end Go.Proofs.Qxb6627769a
