/-
  The mean of twoW numbers with a point: ties go to ties. No program here.
-/
import Derived.Test.Qxb6627713aFlt
import Derived.Laws.FloatArith
namespace Go.Proofs.Qxb6627713a
open Go.RowKit Go.Sort
open Ieee (Datum)
set_option linter.unusedVariables false

/-- The same, but for the sign of a zero. -/
def Sz (d e : Datum) : Prop := d = e ∨ ∃ s t i, d = .number s 0 i ∧ e = .number t 0 i
/-- Both no numbers, or the same but for the sign of a zero. -/
def Sm (x y : Nat) : Prop := (kr (rd x) = -2 ∧ kr (rd y) = -2) ∨ Sz (rd x) (rd y)

theorem binade_eq : FloatKind.f64.format.binade = 4503599627370496 := by decide
theorem least_eq : FloatKind.f64.format.leastPlace = -1074 := by decide

theorem read_can {x : Nat} {s : Bool} {m : Nat} {i : Int} (h : rd x = .number s m i) : (m < 4503599627370496 ∧ i = -1074) ∨ (4503599627370496 ≤ m ∧ m < 9007199254740992 ∧ -1074 ≤ i) := by
  unfold rd Ieee.Format.read at h
  simp only [] at h
  rw [binade_eq, least_eq] at h
  split at h
  · rename_i hr
    injection h with h1 h2 h3
    left
    exact ⟨by omega, by omega⟩
  · split at h
    · injection h with h1 h2 h3
      right
      exact ⟨by omega, by omega, by omega⟩
    · split at h <;> cases h

theorem signed_abs (s : Bool) (m u : Nat) : (Ieee.signed s m u).natAbs = m * 2 ^ u := by
  unfold Ieee.signed
  rw [Nat.shiftLeft_eq]
  generalize m * 2 ^ u = z
  cases s
  · show ((z : Nat) : Int).natAbs = z
    omega
  · show (-((z : Nat) : Int)).natAbs = z
    omega

theorem signed_zero (s : Bool) (u : Nat) : Ieee.signed s 0 u = 0 := by
  unfold Ieee.signed
  rw [Nat.shiftLeft_eq, Nat.zero_mul]
  cases s <;> rfl

theorem signed_same {s t : Bool} {m : Nat} (h : Ieee.signed s m 0 = Ieee.signed t m 0) : s = t ∨ m = 0 := by
  unfold Ieee.signed at h
  rw [Nat.shiftLeft_eq, Nat.pow_zero, Nat.mul_one] at h
  cases s <;> cases t <;> simp at h ⊢ <;> omega

theorem far_no {m n k : Nat} (h : m = n * 2 ^ (k + 1)) (hm : m < 9007199254740992) (hn : 4503599627370496 ≤ n) : False := by
  have h1 : 1 ≤ 2 ^ k := Nat.one_le_two_pow
  have h2 : n * 2 ^ (k + 1) = n * 2 * 2 ^ k := by rw [Nat.pow_succ, Nat.mul_assoc, Nat.mul_comm (2 ^ k) 2]
  have h3 : n * 2 * 1 ≤ n * 2 * 2 ^ k := Nat.mul_le_mul_left _ h1
  omega

theorem sm_of_same {x y : Nat} (h : same x y = true) : Sm x y := by
  unfold same at h
  by_cases hnx : kr (rd x) = -2
  · rw [(fnan_iff x).2 hnx, if_pos rfl, fnan_iff] at h
    exact Or.inl ⟨hnx, h⟩
  · rw [(fnan_no x).2 hnx, if_neg Bool.false_ne_true, order_rd] at h
    right
    have ho : (rd x).order (rd y) = some .eq := by simpa using h
    have hny : kr (rd y) ≠ -2 := by
      intro e
      rw [order_nan _ _ (Or.inr e)] at ho
      cases ho
    cases hx : rd x with
    | nan s f => rw [hx] at hnx; exact absurd rfl hnx
    | infinity s =>
      cases hy : rd y with
      | nan t g => rw [hy] at hny; exact absurd rfl hny
      | infinity t =>
        rw [hx, hy] at ho
        cases s <;> cases t <;> first | exact Or.inl rfl | (exfalso; revert ho; decide)
      | number t n j =>
        rw [hx, hy] at ho
        cases s <;> cases ho
    | number s m i =>
      cases hy : rd y with
      | nan t g => rw [hy] at hny; exact absurd rfl hny
      | infinity t =>
        rw [hx, hy] at ho
        cases t <;> cases ho
      | number t n j =>
        have cx := read_can hx
        have cy := read_can hy
        rw [hx, hy, order_number s t m n i j (min i j) (by omega) (by omega)] at ho
        have hv : Ieee.signed s m (i - min i j).toNat = Ieee.signed t n (j - min i j).toNat := compare_eq.1 (Option.some.inj ho)
        have ha : m * 2 ^ (i - min i j).toNat = n * 2 ^ (j - min i j).toNat := by rw [← signed_abs s, ← signed_abs t, hv]
        have hij : i = j := by
          rcases Int.lt_trichotomy i j with hlt | heq | hgt
          · exfalso
            obtain ⟨k, hk⟩ : ∃ k, (j - min i j).toNat = k + 1 := ⟨(j - min i j).toNat - 1, by omega⟩
            rw [show (i - min i j).toNat = 0 by omega, hk, Nat.pow_zero, Nat.mul_one] at ha
            exact far_no ha (by omega) (by omega)
          · exact heq
          · exfalso
            obtain ⟨k, hk⟩ : ∃ k, (i - min i j).toNat = k + 1 := ⟨(i - min i j).toNat - 1, by omega⟩
            rw [show (j - min i j).toNat = 0 by omega, hk, Nat.pow_zero, Nat.mul_one] at ha
            exact far_no ha.symm (by omega) (by omega)
        subst hij
        rw [show (i - min i i).toNat = 0 by omega] at hv ha
        rw [Nat.pow_zero, Nat.mul_one, Nat.mul_one] at ha
        subst ha
        rcases signed_same hv with h | h
        · subst h; exact Or.inl rfl
        · subst h; exact Or.inr ⟨s, t, i, rfl, rfl⟩

theorem Sz.refl (d : Datum) : Sz d d := Or.inl rfl

theorem sum_sz {d d' e e' : Datum} (h1 : Sz d d') (h2 : Sz e e') : (d.sum e = none ∧ d'.sum e' = none) ∨ ∃ z z', d.sum e = some z ∧ d'.sum e' = some z' ∧ Sz z z' := by
  have key : ∀ (s s' t t' : Bool) (m n : Nat) (i j : Int), (s = s' ∨ m = 0) → (t = t' ∨ n = 0) → ∃ z z', (Datum.number s m i).sum (.number t n j) = some z ∧ (Datum.number s' m i).sum (.number t' n j) = some z' ∧ Sz z z' := by
    intro s s' t t' m n i j hs ht
    have e1 : ∀ u, Ieee.signed s m u = Ieee.signed s' m u := by
      intro u; rcases hs with h | h
      · rw [h]
      · rw [h, signed_zero, signed_zero]
    have e2 : ∀ u, Ieee.signed t n u = Ieee.signed t' n u := by
      intro u; rcases ht with h | h
      · rw [h]
      · rw [h, signed_zero, signed_zero]
    refine ⟨_, _, rfl, rfl, ?_⟩
    rw [e1, e2]
    generalize Ieee.signed s' m (i - min i j).toNat + Ieee.signed t' n (j - min i j).toNat = T
    by_cases hT : T = 0
    · subst hT
      right
      exact ⟨_, _, _, rfl, rfl⟩
    · rw [if_neg hT, if_neg hT]
      exact Or.inl rfl
  have self : ∀ (a b : Datum), (a.sum b = none ∧ a.sum b = none) ∨ ∃ z z', a.sum b = some z ∧ a.sum b = some z' ∧ Sz z z' := by
    intro a b
    cases h : a.sum b with
    | none => exact Or.inl ⟨rfl, rfl⟩
    | some z => exact Or.inr ⟨z, z, rfl, rfl, Or.inl rfl⟩
  rcases h1 with rfl | ⟨s, s', i, rfl, rfl⟩
  · rcases h2 with rfl | ⟨t, t', j, rfl, rfl⟩
    · exact self d e
    · cases d with
      | nan s f => exact Or.inl ⟨rfl, rfl⟩
      | infinity s => exact Or.inr ⟨_, _, rfl, rfl, Or.inl rfl⟩
      | number s m i => exact Or.inr (key s s t t' m 0 i j (Or.inl rfl) (Or.inr rfl))
  · rcases h2 with rfl | ⟨t, t', j, rfl, rfl⟩
    · cases e with
      | nan t g => exact Or.inl ⟨rfl, rfl⟩
      | infinity t => exact Or.inr ⟨_, _, rfl, rfl, Or.inl rfl⟩
      | number t n j => exact Or.inr (key s s' t t 0 n i j (Or.inr rfl) (Or.inl rfl))
    · exact Or.inr (key s s' t t' 0 0 i j (Or.inr rfl) (Or.inr rfl))

theorem write_zero (s : Bool) (i : Int) : FloatKind.f64.format.write (.number s 0 i) = if s then 9223372036854775808 else 0 := by
  show FloatKind.f64.format.nearest s 0 i = _
  unfold Ieee.Format.nearest
  rw [if_pos rfl]
  cases s <;> decide

theorem rd_zero (s : Bool) : rd (if s then 9223372036854775808 else 0) = .number s 0 (-1074) := by
  cases s <;> decide

theorem write_sz {d e : Datum} (h : Sz d e) : FloatKind.f64.format.write d = FloatKind.f64.format.write e ∨ ∃ s t : Bool, FloatKind.f64.format.write d = (if s then 9223372036854775808 else 0) ∧ FloatKind.f64.format.write e = if t then 9223372036854775808 else 0 := by
  rcases h with rfl | ⟨s, t, i, rfl, rfl⟩
  · exact Or.inl rfl
  · exact Or.inr ⟨s, t, write_zero s i, write_zero t i⟩

theorem sz_of_words {x y : Nat} (h : x = y ∨ ∃ s t : Bool, x = (if s then 9223372036854775808 else 0) ∧ y = if t then 9223372036854775808 else 0) : Sz (rd x) (rd y) := by
  rcases h with rfl | ⟨s, t, rfl, rfl⟩
  · exact Or.inl rfl
  · rw [rd_zero, rd_zero]
    exact Or.inr ⟨s, t, _, rfl, rfl⟩

theorem same_of_words {x y : Nat} (h : x = y ∨ ∃ s t : Bool, x = (if s then 9223372036854775808 else 0) ∧ y = if t then 9223372036854775808 else 0) : same x y = true := by
  rcases h with rfl | ⟨s, t, rfl, rfl⟩
  · exact same_of_ties x x (swoE.irrefl x) (swoE.irrefl x)
  · cases s <;> cases t <;> decide

/-- Half of a number with a point. -/
def twoW : Nat := 4611686018427387904
theorem rd_twoW : rd twoW = .number false 4503599627370496 (-51) := by decide

theorem half_sz {d e : Datum} (h : Sz d e) : (d.quotient 54 (rd twoW) = none ∧ e.quotient 54 (rd twoW) = none) ∨ ∃ z z', d.quotient 54 (rd twoW) = some z ∧ e.quotient 54 (rd twoW) = some z' ∧ Sz z z' := by
  rw [rd_twoW]
  rcases h with rfl | ⟨s, t, i, rfl, rfl⟩
  · cases h : d.quotient 54 (.number false 4503599627370496 (-51)) with
    | none => exact Or.inl ⟨rfl, rfl⟩
    | some z => exact Or.inr ⟨z, z, rfl, rfl, Or.inl rfl⟩
  · refine Or.inr ⟨_, _, rfl, rfl, ?_⟩
    right
    refine ⟨s ^^ false, t ^^ false, _, ?_, rfl⟩
    rfl

/-- r may be half the sum of x and y. -/
def Avg (x y r : Nat) : Prop := ∃ t, (FloatKind.f64.format.add x y = some t ∨ (FloatKind.f64.format.add x y = none ∧ fnan t = true)) ∧ (FloatKind.f64.format.div t twoW = some r ∨ (FloatKind.f64.format.div t twoW = none ∧ fnan r = true))

theorem add_def (x y : Nat) : FloatKind.f64.format.add x y = ((rd x).sum (rd y)).map FloatKind.f64.format.write := rfl
theorem div_def (x y : Nat) : FloatKind.f64.format.div x y = ((rd x).quotient 54 (rd y)).map FloatKind.f64.format.write := rfl

theorem sum_nan {d e : Datum} (h : kr d = -2 ∨ kr e = -2) : d.sum e = none := by
  cases d with
  | nan s f => rfl
  | infinity s =>
    cases e with
    | nan t g => rfl
    | infinity t => cases s <;> cases t <;> simp [kr] at h
    | number t n j => cases s <;> simp [kr] at h
  | number s m i =>
    cases e with
    | nan t g => rfl
    | infinity t => cases t <;> simp [kr] at h
    | number t n j => simp [kr] at h
theorem quo_nan {d e : Datum} (h : kr d = -2) : d.quotient 54 e = none := by
  cases d with
  | nan s f => rfl
  | infinity s => cases s <;> simp [kr] at h
  | number s m i => simp [kr] at h

theorem same_nan {x y : Nat} (hx : fnan x = true) (hy : fnan y = true) : same x y = true := by
  unfold same
  rw [hx, if_pos rfl, hy]

theorem avg_same {x x' y y' r r' : Nat} (hx : same x x' = true) (hy : same y y' = true) (h : Avg x y r) (h' : Avg x' y' r') : same r r' = true := by
  obtain ⟨t, h1, h2⟩ := h
  obtain ⟨t', h1', h2'⟩ := h'
  have S : ((rd x).sum (rd y) = none ∧ (rd x').sum (rd y') = none) ∨ ∃ z z', (rd x).sum (rd y) = some z ∧ (rd x').sum (rd y') = some z' ∧ Sz z z' := by
    rcases sm_of_same hx with ⟨a, b⟩ | sx
    · exact Or.inl ⟨sum_nan (Or.inl a), sum_nan (Or.inl b)⟩
    · rcases sm_of_same hy with ⟨a, b⟩ | sy
      · exact Or.inl ⟨sum_nan (Or.inr a), sum_nan (Or.inr b)⟩
      · exact sum_sz sx sy
  rw [add_def] at h1 h1'
  rw [div_def] at h2 h2'
  have T : (fnan t = true ∧ fnan t' = true) ∨ Sz (rd t) (rd t') := by
    rcases S with ⟨a, b⟩ | ⟨z, z', a, b, sz⟩
    · rw [a] at h1
      rw [b] at h1'
      left
      rcases h1 with h1 | h1
      · cases h1
      · rcases h1' with h1' | h1'
        · cases h1'
        · exact ⟨h1.2, h1'.2⟩
    · rw [a] at h1
      rw [b] at h1'
      right
      rcases h1 with h1 | h1
      · rcases h1' with h1' | h1'
        · injection h1 with h1
          injection h1' with h1'
          rw [← h1, ← h1']
          exact sz_of_words (write_sz sz)
        · cases h1'.1
      · cases h1.1
  rcases T with ⟨a, b⟩ | sz
  · rw [quo_nan ((fnan_iff t).1 a)] at h2
    rw [quo_nan ((fnan_iff t').1 b)] at h2'
    rcases h2 with h2 | h2
    · cases h2
    · rcases h2' with h2' | h2'
      · cases h2'
      · exact same_nan h2.2 h2'.2
  · rcases half_sz sz with ⟨a, b⟩ | ⟨z, z', a, b, sz2⟩
    · rw [a] at h2
      rw [b] at h2'
      rcases h2 with h2 | h2
      · cases h2
      · rcases h2' with h2' | h2'
        · cases h2'
        · exact same_nan h2.2 h2'.2
    · rw [a] at h2
      rw [b] at h2'
      rcases h2 with h2 | h2
      · rcases h2' with h2' | h2'
        · injection h2 with h2
          injection h2' with h2'
          rw [← h2, ← h2']
          exact same_of_words (write_sz sz2)
        · cases h2'.1
      · cases h2.1
end Go.Proofs.Qxb6627713a
