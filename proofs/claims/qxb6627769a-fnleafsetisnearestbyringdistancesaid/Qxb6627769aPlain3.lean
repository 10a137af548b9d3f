/-
  The two runs round the ring, and their order. No program here.
-/
import Derived.Test.Qxb6627769aPlain2
import Derived.Test.Qxb6627769aSmall
namespace Go.Proofs.Qxb6627769a
set_option linter.unusedVariables false

def upto (f : Nat → Int) (k : Nat) : List Int := (List.range k).map f
theorem upto_succ (f : Nat → Int) (k : Nat) : upto f (k + 1) = upto f k ++ [f k] := by simp [upto, List.range_succ]
theorem upto_length (f : Nat → Int) (k : Nat) : (upto f k).length = k := by simp [upto]
theorem upto_get (f : Nat → Int) (k i : Nat) (h : i < (upto f k).length) : (upto f k)[i] = f i := by simp [upto]
theorem upto_split (f : Nat → Int) (n p : Nat) (h : p ≤ n) : upto f n = upto f p ++ upto (fun t => f (p + t)) (n - p) := by
  apply List.ext_getElem
  · simp [upto_length]; omega
  · intro i h1 h2
    rw [upto_get]
    by_cases hi : i < p
    · rw [List.getElem_append_left (by rw [upto_length]; exact hi), upto_get]
    · rw [List.getElem_append_right (by rw [upto_length]; omega), upto_get]
      congr 1
      rw [upto_length]
      omega
theorem upto_mem {f : Nat → Int} {n : Nat} {y : Int} (h : y ∈ upto f n) : ∃ j, j < n ∧ f j = y := by
  obtain ⟨j, hj, e⟩ := List.mem_map.1 h
  exact ⟨j, List.mem_range.1 hj, e⟩
theorem upto_asc {f : Nat → Int} {n : Nat} (h : Grows f n) : Asc (upto f n) := by
  apply List.pairwise_iff_getElem.2
  intro i j hi hj hij
  rw [upto_get, upto_get]
  exact h i j hij (by rw [upto_length] at hj; exact hj)

theorem asc_perm {s t : List Int} (hp : s.Perm t) (ht : Asc t) (hs : ∀ i j (hi : i < s.length) (hj : j < s.length), i < j → ¬ s[j] < s[i]) : s = t := by
  refine hp.eq_of_pairwise (le := fun a b : Int => a ≤ b) ?_ ?_ ?_
  · intro a b _ _ h1 h2
    exact Int.le_antisymm h1 h2
  · apply List.pairwise_iff_getElem.2
    intro i j hi hj hij
    exact Int.not_lt.1 (hs i j hi hj hij)
  · apply List.pairwise_iff_getElem.2
    intro i j hi hj hij
    exact Int.le_of_lt (asc_lt ht hi hj hij)

section
variable {f : Nat → Int} {n p q l : Nat} {x : Int} {fd : Bool}

/-- x's place after itself. -/
def after (p : Nat) (fd : Bool) : Nat := if fd then p + 1 else p

theorem ring_of (hG : Grows f n) (hF : Found f n x p fd) (hu : ∀ j, j < n → 0 ≤ f j ∧ f j < 18446744073709551616) (hx : 0 ≤ x ∧ x < 18446744073709551616) (hq : q = after p fd) :
    Ring x (upto f n) (upto f p) (upto (fun t => f (q + t)) (n - q)) fd ∧ p ≤ q ∧ q ≤ n := by
  obtain ⟨⟨h1, h2, h3⟩, h4⟩ := hF
  have hpq : p ≤ q := by rw [hq]; unfold after; split <;> omega
  have hqn : q ≤ n := by
    rw [hq]; unfold after
    cases fd with
    | true => have := (h4.1 rfl).1; simp; omega
    | false => simpa using h1
  refine ⟨⟨⟨?_, ?_, ?_⟩, ?_, ?_, ?_, ?_, hx⟩, hpq, hqn⟩
  · cases fd with
    | true =>
      obtain ⟨h5, h6⟩ := h4.1 rfl
      have hq' : q = p + 1 := hq
      subst hq'
      rw [upto_split f n (p + 1) (by omega), upto_succ, h6]
      rfl
    | false =>
      have hq' : q = p := hq
      subst hq'
      rw [upto_split f n q h1]
      simp
  · intro y hy
    obtain ⟨j, hj, rfl⟩ := upto_mem hy
    exact h2 j hj
  · intro y hy
    obtain ⟨j, hj, rfl⟩ := upto_mem hy
    have h5 := h3 (q + j) (by omega) (by omega)
    cases fd with
    | true =>
      obtain ⟨h6, h7⟩ := h4.1 rfl
      have hq' : q = p + 1 := hq
      have := hG p (q + j) (by omega) (by omega)
      omega
    | false =>
      have hq' : q = p := hq
      have h8 : ¬ (p < n ∧ f p = x) := fun h => Bool.noConfusion (h4.2 h)
      rcases Nat.eq_zero_or_pos j with h | h
      · subst h
        have h9 : f p ≠ x := fun e => h8 ⟨by omega, e⟩
        rw [Nat.add_zero, hq'] at h5 ⊢
        omega
      · have h9 : f p ≠ x := fun e => h8 ⟨by omega, e⟩
        have := hG p (q + j) (by omega) (by omega)
        have := h3 p (Nat.le_refl _) (by omega)
        omega
  · exact upto_asc (fun i j hij hj => hG i j hij (by omega))
  · exact upto_asc (fun i j hij hj => hG (q + i) (q + j) (by omega) (by omega))
  · intro y hy
    obtain ⟨j, hj, rfl⟩ := upto_mem hy
    exact hu j (by omega)
  · intro y hy
    obtain ⟨j, hj, rfl⟩ := upto_mem hy
    exact hu (q + j) (by omega)

/-- The clockwise run, and the other. -/
def runC (f : Nat → Int) (n q : Nat) (k : Nat) : Int := f ((q + k) % n)
def runA (f : Nat → Int) (n p : Nat) (k : Nat) : Int := f ((p + n - (k + 1)) % n)

theorem mod_hi {a n : Nat} (h1 : n ≤ a) (h2 : a < n + n) : a % n = a - n := by
  rw [Nat.mod_eq_sub_mod h1, Nat.mod_eq_of_lt (by omega)]

theorem run_take (hpq : p ≤ q) (hqn : q ≤ n) (hl : l ≤ n - q + p) : upto (runC f n q) l = (upto (fun t => f (q + t)) (n - q) ++ upto f p).take l := by
  apply List.ext_getElem
  · simp [upto_length]; omega
  · intro i h1 h2
    rw [upto_length] at h1
    rw [upto_get, List.getElem_take]
    unfold runC
    by_cases hi : i < n - q
    · rw [List.getElem_append_left (by rw [upto_length]; exact hi), upto_get, Nat.mod_eq_of_lt (by omega)]
    · rw [List.getElem_append_right (by rw [upto_length]; omega), upto_get, mod_hi (by omega) (by omega), upto_length]
      congr 1
      omega

theorem run_drop (hpq : p ≤ q) (hqn : q ≤ n) (hl : l ≤ n - q + p) : (upto (runA f n p) l).reverse = (upto (fun t => f (q + t)) (n - q) ++ upto f p).drop ((upto (fun t => f (q + t)) (n - q) ++ upto f p).length - l) := by
  have hlen : (upto (fun t => f (q + t)) (n - q) ++ upto f p).length = n - q + p := by simp [upto_length]
  apply List.ext_getElem
  · rw [List.length_reverse, upto_length, List.length_drop, hlen]; omega
  · intro i h1 h2
    rw [List.length_reverse, upto_length] at h1
    rw [List.getElem_reverse, upto_get, List.getElem_drop]
    unfold runA
    simp only [upto_length, hlen]
    by_cases hi : n - q + p - l + i < n - q
    · rw [List.getElem_append_left (by rw [upto_length]; exact hi), upto_get, Nat.mod_eq_of_lt (by omega)]
      congr 1
      omega
    · rw [List.getElem_append_right (by rw [upto_length]; omega), upto_get, mod_hi (by omega) (by omega), upto_length]
      congr 1
      omega

theorem leaf_few (hG : Grows f n) (hF : Found f n x p fd) (hu : ∀ j, j < n → 0 ≤ f j ∧ f j < 18446744073709551616) (hx : 0 ≤ x ∧ x < 18446744073709551616) (hq : q = after p fd) (hl : n - q + p ≤ 2 * l) :
    lsl x (upto f n) l = upto f p ++ upto (fun t => f (q + t)) (n - q) := by
  obtain ⟨hR, h1, h2⟩ := ring_of hG hF hu hx hq
  exact hR.few (by rw [hR.cut.others_eq, upto_length, upto_length]; omega)

theorem leaf_many (hG : Grows f n) (hF : Found f n x p fd) (hu : ∀ j, j < n → 0 ≤ f j ∧ f j < 18446744073709551616) (hx : 0 ≤ x ∧ x < 18446744073709551616) (hq : q = after p fd) (hl : 2 * l < n - q + p) :
    (upto (runC f n q) l ++ upto (runA f n p) l).Perm (lsl x (upto f n) l) := by
  obtain ⟨hR, h1, h2⟩ := ring_of hG hF hu hx hq
  refine List.Perm.trans ?_ (hR.many (l := l) (by rw [hR.cut.others_eq, upto_length, upto_length]; omega))
  rw [← run_take h1 h2 (by omega), ← run_drop h1 h2 (by omega)]
  exact List.Perm.append_left _ (List.reverse_perm _).symm

theorem lsl_asc {r : List Int} (h : Asc r) : Asc (lsl x r l) := List.Pairwise.sublist List.filter_sublist h

theorem leaf_sorted (hG : Grows f n) (hF : Found f n x p fd) (hu : ∀ j, j < n → 0 ≤ f j ∧ f j < 18446744073709551616) (hx : 0 ≤ x ∧ x < 18446744073709551616) (hq : q = after p fd) (hl : 2 * l < n - q + p) {s : List Int}
    (hp : s.Perm (upto (runC f n q) l ++ upto (runA f n p) l)) (hs : ∀ i j (hi : i < s.length) (hj : j < s.length), i < j → ¬ s[j] < s[i]) : s = lsl x (upto f n) l :=
  asc_perm (hp.trans (leaf_many hG hF hu hx hq hl)) (lsl_asc (upto_asc hG)) hs
end
end Go.Proofs.Qxb6627769a
