/-
  The places of the nearest ids. No program here.
-/
import Derived.Test.Qxb6627769aPlain
namespace Go.Proofs.Qxb6627769a
set_option linter.unusedVariables false

theorem countP_all {s : List Int} {p q : Int → Bool} (h : ∀ y ∈ s, p y = q y) : s.countP p = s.countP q := by
  induction s with
  | nil => rfl
  | cons y s ih =>
    rw [List.countP_cons, List.countP_cons, ih (fun z hz => h z (List.mem_cons_of_mem _ hz)), h y (List.mem_cons_self ..)]

structure Ring (x : Int) (r a c : List Int) (f : Bool) : Prop where
  cut : Cut x r a c f
  ha : Asc a
  hc : Asc c
  ua : U64 a
  uc : U64 c
  ux : 0 ≤ x ∧ x < 18446744073709551616

section
variable {x : Int} {r a c : List Int} {f : Bool} {l : Nat}

theorem Ring.cw_hi (h : Ring x r a c f) {j : Nat} (hj : j < c.length) : cw x r c[j] = j := by
  have hu := h.ux
  have hy := h.uc _ (List.getElem_mem hj)
  have hx := h.cut.hi _ (List.getElem_mem hj)
  have hb := asc_below h.hc hj
  generalize c[j] = y at *
  unfold cw
  rw [h.cut.count _ (by simp)]
  have h1 : a.countP (fun z => z != x && decide ((z - x) % 18446744073709551616 < (y - x) % 18446744073709551616)) = 0 := by
    rw [List.countP_eq_zero]
    intro z hz
    have := h.ua z hz
    have := h.cut.lo z hz
    simp
    intro _
    omega
  have h2 : c.countP (fun z => z != x && decide ((z - x) % 18446744073709551616 < (y - x) % 18446744073709551616)) = c.countP (fun z => decide (z < y)) := by
    apply countP_all
    intro z hz
    have h3 := h.uc z hz
    have h4 := h.cut.hi z hz
    have h5 : (z != x) = true := by simp; omega
    rw [h5, Bool.true_and]
    congr 1
    apply propext
    constructor <;> intro <;> omega
  omega

theorem Ring.cw_lo (h : Ring x r a c f) {j : Nat} (hj : j < a.length) : cw x r a[j] = c.length + j := by
  have hu := h.ux
  have hy := h.ua _ (List.getElem_mem hj)
  have hx := h.cut.lo _ (List.getElem_mem hj)
  have hb := asc_below h.ha hj
  generalize a[j] = y at *
  unfold cw
  rw [h.cut.count _ (by simp)]
  have h1 : c.countP (fun z => z != x && decide ((z - x) % 18446744073709551616 < (y - x) % 18446744073709551616)) = c.length := by
    rw [List.countP_eq_length]
    intro z hz
    have := h.uc z hz
    have := h.cut.hi z hz
    simp
    constructor <;> omega
  have h2 : a.countP (fun z => z != x && decide ((z - x) % 18446744073709551616 < (y - x) % 18446744073709551616)) = a.countP (fun z => decide (z < y)) := by
    apply countP_all
    intro z hz
    have h3 := h.ua z hz
    have h4 := h.cut.lo z hz
    have h5 : (z != x) = true := by simp; omega
    rw [h5, Bool.true_and]
    congr 1
    apply propext
    constructor <;> intro <;> omega
  omega

theorem Ring.ccw_hi (h : Ring x r a c f) {j : Nat} (hj : j < c.length) : ccw x r c[j] = a.length + (c.length - 1 - j) := by
  have hu := h.ux
  have hy := h.uc _ (List.getElem_mem hj)
  have hx := h.cut.hi _ (List.getElem_mem hj)
  have hb := asc_above h.hc hj
  generalize c[j] = y at *
  unfold ccw
  rw [h.cut.count _ (by simp)]
  have h1 : a.countP (fun z => z != x && decide ((x - z) % 18446744073709551616 < (x - y) % 18446744073709551616)) = a.length := by
    rw [List.countP_eq_length]
    intro z hz
    have := h.ua z hz
    have := h.cut.lo z hz
    simp
    constructor <;> omega
  have h2 : c.countP (fun z => z != x && decide ((x - z) % 18446744073709551616 < (x - y) % 18446744073709551616)) = c.countP (fun z => decide (y < z)) := by
    apply countP_all
    intro z hz
    have h3 := h.uc z hz
    have h4 := h.cut.hi z hz
    have h5 : (z != x) = true := by simp; omega
    rw [h5, Bool.true_and]
    congr 1
    apply propext
    constructor <;> intro <;> omega
  omega

theorem Ring.ccw_lo (h : Ring x r a c f) {j : Nat} (hj : j < a.length) : ccw x r a[j] = a.length - 1 - j := by
  have hu := h.ux
  have hy := h.ua _ (List.getElem_mem hj)
  have hx := h.cut.lo _ (List.getElem_mem hj)
  have hb := asc_above h.ha hj
  generalize a[j] = y at *
  unfold ccw
  rw [h.cut.count _ (by simp)]
  have h1 : c.countP (fun z => z != x && decide ((x - z) % 18446744073709551616 < (x - y) % 18446744073709551616)) = 0 := by
    rw [List.countP_eq_zero]
    intro z hz
    have := h.uc z hz
    have := h.cut.hi z hz
    simp
    intro _
    omega
  have h2 : a.countP (fun z => z != x && decide ((x - z) % 18446744073709551616 < (x - y) % 18446744073709551616)) = a.countP (fun z => decide (y < z)) := by
    apply countP_all
    intro z hz
    have h3 := h.ua z hz
    have h4 := h.cut.lo z hz
    have h5 : (z != x) = true := by simp; omega
    rw [h5, Bool.true_and]
    congr 1
    apply propext
    constructor <;> intro <;> omega
  omega

theorem Ring.near_at (h : Ring x r a c f) (hl : 2 * l < others x r) {k : Nat} (hk : k < (c ++ a).length) : near x r l (c ++ a)[k] = (decide (k < l) || decide ((c ++ a).length - l ≤ k)) := by
  have ho := h.cut.others_eq
  have hlen : (c ++ a).length = c.length + a.length := List.length_append
  unfold near
  rw [decide_eq_false (by omega : ¬ others x r ≤ 2 * l), Bool.false_or]
  by_cases hc : k < c.length
  · rw [List.getElem_append_left hc, h.cw_hi hc, h.ccw_hi hc]
    congr 1
    congr 1
    apply propext
    constructor <;> intro <;> omega
  · rw [List.getElem_append_right (by omega), h.cw_lo (by omega), h.ccw_lo (by omega)]
    congr 1
    · congr 1
      apply propext
      constructor <;> intro <;> omega
    · congr 1
      apply propext
      constructor <;> intro <;> omega

theorem filter_ends {s : List Int} {p : Int → Bool} {l : Nat} (hl : 2 * l < s.length) (h : ∀ k (hk : k < s.length), p s[k] = (decide (k < l) || decide (s.length - l ≤ k))) : s.filter p = s.take l ++ s.drop (s.length - l) := by
  have e : s = s.take l ++ ((s.drop l).take (s.length - 2 * l) ++ s.drop (s.length - l)) := by
    have e2 : s.drop (s.length - l) = (s.drop l).drop (s.length - 2 * l) := by
      rw [List.drop_drop]; congr 1; omega
    rw [e2, List.take_append_drop, List.take_append_drop]
  have h1 : (s.take l).filter p = s.take l := by
    rw [List.filter_eq_self]
    intro y hy
    obtain ⟨i, hi, rfl⟩ := List.mem_iff_getElem.1 hy
    simp only [List.length_take] at hi
    rw [List.getElem_take, h i (by omega), decide_eq_true (by omega : i < l), Bool.true_or]
  have h2 : ((s.drop l).take (s.length - 2 * l)).filter p = [] := by
    rw [List.filter_eq_nil_iff]
    intro y hy
    obtain ⟨i, hi, rfl⟩ := List.mem_iff_getElem.1 hy
    simp only [List.length_take, List.length_drop] at hi
    rw [List.getElem_take, List.getElem_drop, h (l + i) (by omega), decide_eq_false (by omega : ¬ l + i < l), decide_eq_false (by omega)]
    simp
  have h3 : (s.drop (s.length - l)).filter p = s.drop (s.length - l) := by
    rw [List.filter_eq_self]
    intro y hy
    obtain ⟨i, hi, rfl⟩ := List.mem_iff_getElem.1 hy
    simp only [List.length_drop] at hi
    rw [List.getElem_drop, h _ (by omega), decide_eq_true (by omega : s.length - l ≤ s.length - l + i), Bool.or_true]
  have e4 : s.filter p = (s.take l ++ ((s.drop l).take (s.length - 2 * l) ++ s.drop (s.length - l))).filter p := by rw [← e]
  rw [e4, List.filter_append, List.filter_append, h1, h2, h3, List.nil_append]

theorem Ring.few (h : Ring x r a c f) (hl : others x r ≤ 2 * l) : lsl x r l = a ++ c := by
  unfold lsl
  rw [h.cut.filt _ (by simp)]
  congr 1
  · rw [List.filter_eq_self]
    intro y hy
    have := h.cut.lo y hy
    unfold near
    rw [decide_eq_true hl]
    simp
    omega
  · rw [List.filter_eq_self]
    intro y hy
    have := h.cut.hi y hy
    unfold near
    rw [decide_eq_true hl]
    simp
    omega

theorem Ring.many (h : Ring x r a c f) (hl : 2 * l < others x r) : ((c ++ a).take l ++ (c ++ a).drop ((c ++ a).length - l)).Perm (lsl x r l) := by
  have ho := h.cut.others_eq
  have hlen : (c ++ a).length = c.length + a.length := List.length_append
  have e : lsl x r l = a.filter (near x r l) ++ c.filter (near x r l) := by
    unfold lsl
    rw [h.cut.filt _ (by simp)]
    congr 1
    · apply List.filter_congr
      intro y hy
      have := h.cut.lo y hy
      have h5 : (y != x) = true := by simp; omega
      rw [h5, Bool.true_and]
    · apply List.filter_congr
      intro y hy
      have := h.cut.hi y hy
      have h5 : (y != x) = true := by simp; omega
      rw [h5, Bool.true_and]
  rw [← filter_ends (p := near x r l) (by omega) (fun k hk => h.near_at hl hk), e, List.filter_append]
  exact List.perm_append_comm
end
end Go.Proofs.Qxb6627769a
