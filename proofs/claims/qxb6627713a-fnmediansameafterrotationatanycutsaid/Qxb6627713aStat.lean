/-
  The order statistic, by counting. No program here.
-/
import Derived.Test.Qxb6627713aMean
namespace Go.Proofs.Qxb6627713a
open Go.RowKit Go.Sort
set_option linter.unusedVariables false

/-- At most k lie below v, more than k lie at or below it. -/
def OS (l : List Nat) (k : Nat) (v : Nat) : Prop := l.countP (fun x => flt x v) ≤ k ∧ k < l.countP (fun x => !flt v x)

theorem OS.perm {l m : List Nat} {k v : Nat} (h : OS l k v) (hp : l.Perm m) : OS m k v := by
  unfold OS at *
  rw [← hp.countP_eq, ← hp.countP_eq]
  exact h

theorem os_no {l : List Nat} {k v u : Nat} (hv : OS l k v) (hu : OS l k u) : flt v u = false := by
  rw [← Bool.not_eq_true]
  intro h
  have hle : l.countP (fun x => !flt v x) ≤ l.countP (fun x => flt x u) := by
    apply List.countP_mono_left
    intro x _ hx
    have hvx : flt v x = false := by simpa using hx
    cases hxu : flt x u with
    | true => rfl
    | false => rw [swoE.ntrans v x u hvx hxu] at h; cases h
  have h1 := hv.2
  have h2 := hu.1
  omega

theorem os_same {l : List Nat} {k v u : Nat} (hv : OS l k v) (hu : OS l k u) : same v u = true := same_of_ties v u (os_no hv hu) (os_no hu hv)

theorem os_sorted (s : List Nat) (hs : ∀ i j (hi : i < s.length) (hj : j < s.length), i < j → flt s[j] s[i] = false) (k : Nat) (hk : k < s.length) : OS s k s[k] := by
  constructor
  · have e : s.countP (fun x => flt x s[k]) = (s.take k).countP (fun x => flt x s[k]) + (s.drop k).countP (fun x => flt x s[k]) := by
      rw [← List.countP_append, List.take_append_drop]
    have z : (s.drop k).countP (fun x => flt x s[k]) = 0 := by
      rw [List.countP_eq_zero]
      intro x hx
      obtain ⟨i, hi, rfl⟩ := List.mem_iff_getElem.1 hx
      rw [List.getElem_drop]
      simp only [List.length_drop] at hi
      rcases Nat.eq_zero_or_pos i with h | h
      · subst h
        simp only [Nat.add_zero]
        rw [swoE.irrefl]
        exact Bool.false_ne_true
      · rw [hs k (k + i) hk (by omega) (by omega)]
        exact Bool.false_ne_true
    have t : (s.take k).countP (fun x => flt x s[k]) ≤ k := by
      refine Nat.le_trans (List.countP_le_length) ?_
      rw [List.length_take]
      omega
    omega
  · have e : s.countP (fun x => !flt s[k] x) = (s.take (k + 1)).countP (fun x => !flt s[k] x) + (s.drop (k + 1)).countP (fun x => !flt s[k] x) := by
      rw [← List.countP_append, List.take_append_drop]
    have t : (s.take (k + 1)).countP (fun x => !flt s[k] x) = (s.take (k + 1)).length := by
      rw [List.countP_eq_length]
      intro x hx
      obtain ⟨i, hi, rfl⟩ := List.mem_iff_getElem.1 hx
      rw [List.getElem_take]
      simp only [List.length_take] at hi
      rcases Nat.lt_or_ge i k with h | h
      · rw [hs i k (by omega) hk h]
        rfl
      · obtain rfl : i = k := by omega
        rw [swoE.irrefl]
        rfl
    rw [List.length_take] at t
    omega

/-- r is the middle of l: the middle one, or the mean of the two middle ones. -/
def Med (l : List Nat) (r : Nat) : Prop := (l.length % 2 = 1 ∧ OS l (l.length / 2) r) ∨ (l.length % 2 = 0 ∧ ∃ p q, OS l (l.length / 2 - 1) p ∧ OS l (l.length / 2) q ∧ Avg p q r)

theorem Med.perm {l m : List Nat} {r : Nat} (h : Med l r) (hp : l.Perm m) : Med m r := by
  unfold Med at *
  rw [← hp.length_eq]
  rcases h with ⟨h1, h2⟩ | ⟨h1, p, q, h2, h3, h4⟩
  · exact Or.inl ⟨h1, h2.perm hp⟩
  · exact Or.inr ⟨h1, p, q, h2.perm hp, h3.perm hp, h4⟩

theorem med_same {l : List Nat} {r s : Nat} (h : Med l r) (h' : Med l s) : same r s = true := by
  rcases h with ⟨h1, h2⟩ | ⟨h1, p, q, h2, h3, h4⟩
  · rcases h' with ⟨h1', h2'⟩ | ⟨h1', p', q', h2', h3', h4'⟩
    · exact os_same h2 h2'
    · omega
  · rcases h' with ⟨h1', h2'⟩ | ⟨h1', p', q', h2', h3', h4'⟩
    · omega
    · exact avg_same (os_same h2 h2') (os_same h3 h3') h4 h4'

/-- The number that the tape gives where an operation has no answer. -/
def nanv (x y : Nat) (w : World) : Nat := (Question.nanBits .f64 x y).cut (w.tape w.drawn (.nanBits .f64 x y))

theorem nanv_nan (x y : Nat) (w : World) : fnan (nanv x y w) = true := by
  rw [fnan_iff]
  unfold nanv
  generalize w.tape w.drawn (.nanBits .f64 x y) = t
  show kr (rd ((t % 2) * 2 ^ 63 + 0x7ff0000000000000 + 1 + (t / 2) % (2 ^ 52 - 1))) = -2
  have h1 : t % 2 < 2 := Nat.mod_lt _ (by decide)
  have h2 : (t / 2) % (2 ^ 52 - 1) < 2 ^ 52 - 1 := Nat.mod_lt _ (by decide)
  generalize t % 2 = a at h1
  generalize (t / 2) % (2 ^ 52 - 1) = b at h2
  unfold rd Ieee.Format.read
  have e1 : FloatKind.f64.format.signWeight = 9223372036854775808 := by decide
  have e2 : FloatKind.f64.format.infRung = 9218868437227405312 := by decide
  simp only []
  rw [binade_eq, e1, e2]
  have e3 : (a * 2 ^ 63 + 0x7ff0000000000000 + 1 + b) % 9223372036854775808 = 9218868437227405312 + 1 + b := by omega
  rw [e3, if_neg (by omega), if_neg (by omega), if_neg (by omega)]
  rfl

theorem run_nan (op : BinOp) (t : TypeId) (x y : Nat) (w : World) (P : Program) (h : (op = .add ∧ FloatKind.f64.format.add x y = none) ∨ (op = .quo ∧ FloatKind.f64.format.div x y = none)) :
    (binOp op t (.float .f64 x) (.float .f64 y)).run P w = .ok (.float .f64 (nanv x y w)) w.drew := by
  rcases h with ⟨rfl, h⟩ | ⟨rfl, h⟩
  · simp [binOp, Op.floatArith, h, Question.forced]
    rfl
  · simp [binOp, Op.floatArith, h, Question.forced]
    rfl
end Go.Proofs.Qxb6627713a
