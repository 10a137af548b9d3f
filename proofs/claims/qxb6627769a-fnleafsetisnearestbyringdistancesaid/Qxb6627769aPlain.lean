/-
  The nearest ids on a ring. No program here.
-/
import Derived.Test.Qxb6627769aLess
namespace Go.Proofs.Qxb6627769a
set_option linter.unusedVariables false

/-- How many ids of r are not x. -/
def others (x : Int) (r : List Int) : Nat := r.countP (fun z => z != x)
/-- How many of them lie strictly nearer to x than y, clockwise. -/
def cw (x : Int) (r : List Int) (y : Int) : Nat := r.countP (fun z => z != x && decide ((z - x) % 18446744073709551616 < (y - x) % 18446744073709551616))
/-- .. and the other way round. -/
def ccw (x : Int) (r : List Int) (y : Int) : Nat := r.countP (fun z => z != x && decide ((x - z) % 18446744073709551616 < (x - y) % 18446744073709551616))
def near (x : Int) (r : List Int) (l : Nat) (y : Int) : Bool := decide (others x r ≤ 2 * l) || decide (cw x r y < l) || decide (ccw x r y < l)
/-- The leafset, as the law says it. -/
def lsl (x : Int) (r : List Int) (l : Nat) : List Int := r.filter (fun y => y != x && near x r l y)

def Asc (r : List Int) : Prop := r.Pairwise (· < ·)
def U64 (r : List Int) : Prop := ∀ y ∈ r, 0 ≤ y ∧ y < 18446744073709551616

/-- The ring, cut at x: what lies below, x itself or nothing, what lies above. -/
structure Cut (x : Int) (r a c : List Int) (f : Bool) : Prop where
  eq : r = a ++ (if f then [x] else []) ++ c
  lo : ∀ y ∈ a, y < x
  hi : ∀ y ∈ c, x < y

section
variable {x : Int} {r a c : List Int} {f : Bool} {l : Nat}

theorem Cut.mid_zero (p : Int → Bool) (hp : p x = false) : (if f then [x] else ([] : List Int)).countP p = 0 := by
  cases f <;> simp [hp]

theorem Cut.count (h : Cut x r a c f) (p : Int → Bool) (hp : p x = false) : r.countP p = a.countP p + c.countP p := by
  rw [h.eq, List.countP_append, List.countP_append, Cut.mid_zero p hp]
  omega

theorem Cut.filt (h : Cut x r a c f) (p : Int → Bool) (hp : p x = false) : r.filter p = a.filter p ++ c.filter p := by
  rw [h.eq, List.filter_append, List.filter_append]
  cases f <;> simp [hp]

theorem Cut.others_eq (h : Cut x r a c f) : others x r = a.length + c.length := by
  unfold others
  rw [h.count _ (by simp)]
  congr 1
  · rw [List.countP_eq_length]
    intro y hy
    have := h.lo y hy
    simp
    omega
  · rw [List.countP_eq_length]
    intro y hy
    have := h.hi y hy
    simp
    omega

theorem asc_lt {s : List Int} (hs : Asc s) {i j : Nat} (hi : i < s.length) (hj : j < s.length) (hij : i < j) : s[i] < s[j] := List.pairwise_iff_getElem.1 hs i j hi hj hij

theorem asc_below {s : List Int} (hs : Asc s) {j : Nat} (hj : j < s.length) : s.countP (fun z => decide (z < s[j])) = j := by
  have e : s.countP (fun z => decide (z < s[j])) = (s.take j).countP (fun z => decide (z < s[j])) + (s.drop j).countP (fun z => decide (z < s[j])) := by
    rw [← List.countP_append, List.take_append_drop]
  have h1 : (s.take j).countP (fun z => decide (z < s[j])) = (s.take j).length := by
    rw [List.countP_eq_length]
    intro y hy
    obtain ⟨i, hi, rfl⟩ := List.mem_iff_getElem.1 hy
    simp only [List.length_take] at hi
    rw [List.getElem_take]
    exact decide_eq_true (asc_lt hs (by omega) hj (by omega))
  have h2 : (s.drop j).countP (fun z => decide (z < s[j])) = 0 := by
    rw [List.countP_eq_zero]
    intro y hy
    obtain ⟨i, hi, rfl⟩ := List.mem_iff_getElem.1 hy
    simp only [List.length_drop] at hi
    rw [List.getElem_drop, decide_eq_true_eq]
    rcases Nat.eq_zero_or_pos i with h | h
    · subst h; simp
    · have := asc_lt hs hj (by omega : j + i < s.length) (by omega)
      omega
  rw [List.length_take] at h1
  omega

theorem asc_above {s : List Int} (hs : Asc s) {j : Nat} (hj : j < s.length) : s.countP (fun z => decide (s[j] < z)) = s.length - 1 - j := by
  have e : s.countP (fun z => decide (s[j] < z)) = (s.take (j + 1)).countP (fun z => decide (s[j] < z)) + (s.drop (j + 1)).countP (fun z => decide (s[j] < z)) := by
    rw [← List.countP_append, List.take_append_drop]
  have h1 : (s.take (j + 1)).countP (fun z => decide (s[j] < z)) = 0 := by
    rw [List.countP_eq_zero]
    intro y hy
    obtain ⟨i, hi, rfl⟩ := List.mem_iff_getElem.1 hy
    simp only [List.length_take] at hi
    rw [List.getElem_take, decide_eq_true_eq]
    rcases Nat.lt_or_ge i j with h | h
    · have := asc_lt hs (by omega : i < s.length) hj h
      omega
    · obtain rfl : i = j := by omega
      omega
  have h2 : (s.drop (j + 1)).countP (fun z => decide (s[j] < z)) = (s.drop (j + 1)).length := by
    rw [List.countP_eq_length]
    intro y hy
    obtain ⟨i, hi, rfl⟩ := List.mem_iff_getElem.1 hy
    simp only [List.length_drop] at hi
    rw [List.getElem_drop]
    exact decide_eq_true (asc_lt hs hj (by omega) (by omega))
  rw [List.length_drop] at h2
  omega
end
end Go.Proofs.Qxb6627769a
