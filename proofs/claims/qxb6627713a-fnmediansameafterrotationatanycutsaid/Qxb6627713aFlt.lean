/-
  Numbers of 64 bits with a point: their order, and the mean of two. No program here.
-/
import Derived.Test.Qxb6627713aLess
namespace Go.Proofs.Qxb6627713a
open Go.RowKit Go.Sort
open Ieee (Datum)
set_option linter.unusedVariables false

/-! ### The order, by a rank and a whole number -/
def kr : Datum → Int
  | .nan _ _ => -2
  | .infinity s => if s then -1 else 1
  | .number _ _ _ => 0
def kv (b : Int) : Datum → Int
  | .number s m i => Ieee.signed s m (i - b).toNat
  | _ => 0
def pl : Datum → Int
  | .number _ _ i => i
  | _ => 0

theorem signed_mul (s : Bool) (m u v : Nat) : Ieee.signed s m (u + v) = Ieee.signed s m u * 2 ^ v := by
  unfold Ieee.signed
  rw [Nat.shiftLeft_eq, Nat.shiftLeft_eq, Nat.pow_add, ← Nat.mul_assoc]
  cases s
  · simp only [Bool.false_eq_true, if_false]
    push_cast
    rfl
  · simp only [if_true]
    push_cast
    rw [Int.neg_mul]

theorem two_pow_pos (v : Nat) : (0 : Int) < 2 ^ v := Int.pow_pos (by decide)

theorem kv_base (s : Bool) (m : Nat) (i b c : Int) (h : b ≤ c) (hc : c ≤ i) : Ieee.signed s m (i - b).toNat = Ieee.signed s m (i - c).toNat * 2 ^ (c - b).toNat := by
  rw [← signed_mul]
  congr 1
  omega

theorem order_number (s t : Bool) (m n : Nat) (i j b : Int) (hi : b ≤ i) (hj : b ≤ j) :
    (Datum.number s m i).order (.number t n j) = some (compare (kv b (.number s m i)) (kv b (.number t n j))) := by
  show some (compare (Ieee.signed s m (i - min i j).toNat) (Ieee.signed t n (j - min i j).toNat)) = some (compare (Ieee.signed s m (i - b).toNat) (Ieee.signed t n (j - b).toNat))
  rw [kv_base s m i b (min i j) (by omega) (by omega), kv_base t n j b (min i j) (by omega) (by omega)]
  have hp := two_pow_pos (min i j - b).toNat
  generalize (2 : Int) ^ (min i j - b).toNat = p at hp
  generalize Ieee.signed s m (i - min i j).toNat = x
  generalize Ieee.signed t n (j - min i j).toNat = y
  congr 1
  show (if x < y then Ordering.lt else if x = y then Ordering.eq else .gt) = (if x * p < y * p then Ordering.lt else if x * p = y * p then Ordering.eq else .gt)
  have h1 : x * p < y * p ↔ x < y := Int.mul_lt_mul_right hp
  have h2 : x * p = y * p ↔ x = y := ⟨fun h => Int.eq_of_mul_eq_mul_right (by omega) h, fun h => by rw [h]⟩
  simp only [h1, h2]

theorem compare_lt {x y : Int} : (compare x y = .lt) ↔ x < y := by
  show (if x < y then Ordering.lt else if x = y then Ordering.eq else .gt) = .lt ↔ x < y
  by_cases h : x < y
  · simp [h]
  · rw [if_neg h]
    by_cases h2 : x = y
    · simp [h2]
    · rw [if_neg h2]; simp [h]
theorem compare_eq {x y : Int} : (compare x y = .eq) ↔ x = y := by
  show (if x < y then Ordering.lt else if x = y then Ordering.eq else .gt) = .eq ↔ x = y
  by_cases h : x < y
  · rw [if_pos h]; constructor
    · intro e; cases e
    · intro e; omega
  · rw [if_neg h]
    by_cases h2 : x = y
    · simp [h2]
    · rw [if_neg h2]; simp [h2]

theorem order_lt (d e : Datum) (b : Int) (hd : b ≤ pl d) (he : b ≤ pl e) (h1 : kr d ≠ -2) (h2 : kr e ≠ -2) : d.order e = some .lt ↔ kr d < kr e ∨ (kr d = kr e ∧ kv b d < kv b e) := by
  cases d with
  | nan s f => exact absurd rfl h1
  | infinity s =>
    cases e with
    | nan t g => exact absurd rfl h2
    | infinity t => cases s <;> cases t <;> simp [Datum.order, kr, kv] <;> decide
    | number t n j => cases s <;> simp [Datum.order, kr]
  | number s m i =>
    cases e with
    | nan t g => exact absurd rfl h2
    | infinity t => cases t <;> simp [Datum.order, kr]
    | number t n j =>
      rw [order_number s t m n i j b hd he]
      rw [Option.some.injEq, compare_lt]
      exact ⟨fun h => Or.inr ⟨rfl, h⟩, fun h => h.elim (fun h => absurd h (Int.lt_irrefl 0)) (fun h => h.2)⟩

theorem order_eq (d e : Datum) (b : Int) (hd : b ≤ pl d) (he : b ≤ pl e) (h1 : kr d ≠ -2) (h2 : kr e ≠ -2) : d.order e = some .eq ↔ (kr d = kr e ∧ kv b d = kv b e) := by
  cases d with
  | nan s f => exact absurd rfl h1
  | infinity s =>
    cases e with
    | nan t g => exact absurd rfl h2
    | infinity t => cases s <;> cases t <;> simp [Datum.order, kr, kv] <;> decide
    | number t n j => cases s <;> simp [Datum.order, kr]
  | number s m i =>
    cases e with
    | nan t g => exact absurd rfl h2
    | infinity t => cases t <;> simp [Datum.order, kr]
    | number t n j =>
      rw [order_number s t m n i j b hd he]
      rw [Option.some.injEq, compare_eq]
      exact ⟨fun h => ⟨rfl, h⟩, fun h => h.2⟩

def rd (x : Nat) : Datum := FloatKind.f64.format.read x
theorem order_rd (x y : Nat) : FloatKind.f64.format.order x y = (rd x).order (rd y) := rfl

theorem fnan_iff (x : Nat) : fnan x = true ↔ kr (rd x) = -2 := by
  unfold fnan
  rw [order_rd]
  cases h : rd x with
  | nan s f => simp [Datum.order, kr]
  | infinity s => cases s <;> simp [Datum.order, kr] <;> decide
  | number s m i =>
    rw [order_number s s m m i i i (Int.le_refl _) (Int.le_refl _)]
    simp [kr]

theorem fnan_no (x : Nat) : fnan x = false ↔ kr (rd x) ≠ -2 := by
  rw [← Bool.not_eq_true, fnan_iff]

theorem order_nan (d e : Datum) (h : kr d = -2 ∨ kr e = -2) : d.order e = none := by
  cases d with
  | nan s f => rfl
  | infinity s =>
    cases e with
    | nan t g => rfl
    | infinity t => cases s <;> cases t <;> simp [kr] at h
    | number t n j => cases s <;> simp [kr] at h
  | number s m i =>
    cases e with
    | nan t g => rfl
    | infinity t => cases t <;> simp [kr] at h
    | number t n j => simp [kr] at h

theorem kr_ge (d : Datum) : -2 ≤ kr d := by
  cases d with
  | nan s f => exact Int.le_refl _
  | infinity s => cases s <;> decide
  | number s m i => simp [kr]

theorem flt_iff (x y : Nat) (b : Int) (hx : b ≤ pl (rd x)) (hy : b ≤ pl (rd y)) : flt x y = true ↔ kr (rd x) < kr (rd y) ∨ (kr (rd x) = kr (rd y) ∧ kv b (rd x) < kv b (rd y)) := by
  unfold flt
  rw [order_rd]
  have gx := kr_ge (rd x)
  have gy := kr_ge (rd y)
  by_cases hnx : kr (rd x) = -2
  · have h0 : kv b (rd x) = 0 := by cases h : rd x with
      | nan s f => rfl
      | infinity s => rfl
      | number s m i => rw [h] at hnx; simp [kr] at hnx
    rw [order_nan _ _ (Or.inl hnx), (fnan_iff x).2 hnx]
    by_cases hny : kr (rd y) = -2
    · have h1 : kv b (rd y) = 0 := by cases h : rd y with
        | nan s f => rfl
        | infinity s => rfl
        | number s m i => rw [h] at hny; simp [kr] at hny
      rw [(fnan_iff y).2 hny]
      simp [hnx, hny, h0, h1]
    · rw [(fnan_no y).2 hny]
      simp
      omega
  · rw [(fnan_no x).2 hnx]
    by_cases hny : kr (rd y) = -2
    · rw [order_nan _ _ (Or.inr hny)]
      simp
      omega
    · rw [Bool.false_and, Bool.false_or, ← order_lt _ _ b hx hy hnx hny]
      simp

theorem swoE : SWO flt where
  irrefl := fun x => by
    rw [← Bool.not_eq_true, flt_iff x x (pl (rd x)) (Int.le_refl _) (Int.le_refl _)]
    omega
  trans := fun x y z h1 h2 => by
    obtain ⟨b, hx, hy, hz⟩ : ∃ b : Int, b ≤ pl (rd x) ∧ b ≤ pl (rd y) ∧ b ≤ pl (rd z) := ⟨min (pl (rd x)) (min (pl (rd y)) (pl (rd z))), by omega, by omega, by omega⟩
    rw [flt_iff _ _ b hx hy] at h1
    rw [flt_iff _ _ b hy hz] at h2
    rw [flt_iff _ _ b hx hz]
    omega
  ntrans := fun x y z h1 h2 => by
    obtain ⟨b, hx, hy, hz⟩ : ∃ b : Int, b ≤ pl (rd x) ∧ b ≤ pl (rd y) ∧ b ≤ pl (rd z) := ⟨min (pl (rd x)) (min (pl (rd y)) (pl (rd z))), by omega, by omega, by omega⟩
    rw [← Bool.not_eq_true, flt_iff _ _ b hx hy] at h1
    rw [← Bool.not_eq_true, flt_iff _ _ b hy hz] at h2
    rw [← Bool.not_eq_true, flt_iff _ _ b hx hz]
    omega

/-- Equal, or both no numbers. -/
def same (x y : Nat) : Bool := if fnan x then fnan y else FloatKind.f64.format.order x y == some .eq

theorem same_of_ties (x y : Nat) (h1 : flt x y = false) (h2 : flt y x = false) : same x y = true := by
  obtain ⟨b, hx, hy⟩ : ∃ b : Int, b ≤ pl (rd x) ∧ b ≤ pl (rd y) := ⟨min (pl (rd x)) (pl (rd y)), by omega, by omega⟩
  rw [← Bool.not_eq_true, flt_iff _ _ b hx hy] at h1
  rw [← Bool.not_eq_true, flt_iff _ _ b hy hx] at h2
  unfold same
  by_cases hnx : kr (rd x) = -2
  · rw [(fnan_iff x).2 hnx, if_pos rfl, fnan_iff]
    omega
  · rw [(fnan_no x).2 hnx, if_neg Bool.false_ne_true, order_rd, (order_eq _ _ b hx hy hnx (by omega)).2 (by omega)]
    rfl
end Go.Proofs.Qxb6627713a
