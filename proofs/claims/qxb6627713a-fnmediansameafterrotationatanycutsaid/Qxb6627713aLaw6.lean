/-
  The second law's function.
-/
import Derived.Test.Qxb6627713aOpen
import Derived.Maps.AppendAt
namespace Go.Proofs.Qxb6627713a
open Go.RowKit
set_option linter.unusedVariables false

/-- What 'make' and 'copy' make of the argument. -/
theorem copied (b off n cap : Nat) (f : Nat → Nat) (w : World) (hcs : ∀ j, j < n → w.cell? ⟨b, off + j, none⟩ = some (.float .f64 (f j))) (hb : b < w.heap.size) :
    ∃ (L : List Value) (w2 : World), madeCells #[Value.float .f64 0] n = L.toArray ∧
      (Builtin.copy_ #[22, 22] 3 #[.slice (some ⟨w.heap.size, 0, none⟩) n n, .slice (some ⟨b, off, none⟩) n cap]).run Try.prog (w.alloc (.cells L.toArray 24)) = .ok (goInt n) w2 ∧
      Below w.heap.size w w2 ∧ w2.heap.size = w.heap.size + 1 ∧ ∀ j, j < n → w2.cell? ⟨w.heap.size, 0 + j, none⟩ = some (.float .f64 (f j)) := by
  obtain ⟨cs, hcsd⟩ : ∃ cs, cs = (upto f n).map (Value.float .f64) := ⟨_, rfl⟩
  have hcl : cs.length = n := by rw [hcsd]; simp [upto_length]
  obtain ⟨L, hLd⟩ : ∃ L, L = (madeCells #[Value.float .f64 0] n).toList := ⟨_, rfl⟩
  have hLl : L.length = n := by rw [hLd]; simp [made_size]
  have hLa : madeCells #[Value.float .f64 0] n = L.toArray := by rw [hLd]
  have HCS : ∀ j v, cs[j]? = some v → (w.alloc (.cells L.toArray 24)).cell? (Addr.add ⟨b, off, none⟩ j) = some v := by
    intro j v hv
    have hj : j < n := by
      rw [← hcl]
      exact (List.getElem?_eq_some_iff.1 hv).1
    have h1 := ((Below.refl w.heap.size w).alloc (Nat.le_refl _) (.cells L.toArray 24)).cell (p := ⟨b, off + j, none⟩) hb
    have ha : Addr.add ⟨b, off, none⟩ j = ⟨b, off + j, none⟩ := by
      unfold Addr.add
      split
      · rename_i h; rw [h]; rfl
      · rfl
    rw [ha, h1, hcs j hj, ← hv, hcsd]
    simp [upto, hj]
  have HG : (w.alloc (.cells L.toArray 24)).heap[w.heap.size]? = some (.cells L.toArray 24 (0, 0)) := World.alloc_heap_new w _
  have HB : Below w.heap.size w (w.alloc (.cells L.toArray 24)) := (Below.refl _ w).alloc (Nat.le_refl _) _
  have H1 : ∀ v ∈ cs, v.oneCell' = true := fun v hv => by
    rw [hcsd] at hv
    obtain ⟨x, _, rfl⟩ := List.mem_map.1 hv
    rfl
  have hcp := run_copy_row (P := Try.prog) (w.alloc (.cells L.toArray 24)) 22 22 3 24 w.heap.size 0 n n ⟨b, off, none⟩ n cap L.toArray 24 cs Try.underlying22 info24s HG (by rw [hcl]; exact (Nat.min_self n).symm) HCS (by simp; omega) H1
  have e : L.toArray.toList.take 0 ++ cs ++ L.toArray.toList.drop (0 + cs.length) = cs := by
    rw [hcl]
    simp [hLl]
  rw [e, hcl] at hcp
  refine ⟨L, _, hLa, hcp, below_setRow HB (Nat.le_refl _) _, by simp, fun j hj => ?_⟩
  have hG2 := setRow_heap (w.alloc (.cells L.toArray 24)) w.heap.size L.toArray cs.toArray 24 (0, 0) HG
  generalize (w.alloc (.cells L.toArray 24)).setRow w.heap.size cs.toArray = w2 at hG2 ⊢
  rw [hcsd] at hG2
  simp [World.cell?, hG2, upto, hj]

/-- The list turned at i, as a function of the place. -/
def rotF (f : Nat → Nat) (n i j : Nat) : Nat := ((upto f n).drop i ++ (upto f n).take i)[j]!
theorem rot_upto (f : Nat → Nat) (n i : Nat) (hi : i ≤ n) : upto (rotF f n i) n = (upto f n).drop i ++ (upto f n).take i := by
  have hlen : ((upto f n).drop i ++ (upto f n).take i).length = n := by simp [upto_length]; omega
  apply List.ext_getElem
  · rw [upto_length, hlen]
  · intro j h1 h2
    have e : (upto (rotF f n i) n)[j] = rotF f n i j := by simp [upto]
    rw [e]
    unfold rotF
    exact getElem!_pos _ j h2
theorem rot_perm (f : Nat → Nat) (n i : Nat) (hi : i ≤ n) : (upto (rotF f n i) n).Perm (upto f n) := by
  rw [rot_upto f n i hi]
  have h := List.perm_append_comm (l₁ := (upto f n).drop i) (l₂ := (upto f n).take i)
  rw [List.take_append_drop] at h
  exact h

set_option maxHeartbeats 1000000 in
theorem bytes9 (a : Option Addr) (n cap : Nat) (i : Int) (w : World) : Calls Try.prog 9 #[.slice a n cap, .int .i64 i] w fun e w' => e = .returned (.bool (decide (n ≤ 1048576))) ∧ w' = w := by
  by_cases h : n ≤ 1048576
  · have hd : decide (n ≤ 1048576) = true := decide_eq_true h
    rw [hd]
    have hz : ¬ (1048576 : Int) < (n : Int) := by omega
    go_enter Try.func9, Try.ntmps9
    go_wp2
    go_ret
    exact ⟨rfl, rfl⟩
  · have hd : decide (n ≤ 1048576) = false := decide_eq_false h
    rw [hd]
    have hz : (1048576 : Int) < (n : Int) := by omega
    go_enter Try.func9, Try.ntmps9
    go_wp2
    go_ret
    exact ⟨rfl, rfl⟩

set_option maxHeartbeats 1000000 in
theorem law6_out (a : Option Addr) (n cap : Nat) (i : Int) (w : World) (h : n = 0 ∨ 4096 < n ∨ i < 0 ∨ (n : Int) < i) : Calls Try.prog 4 #[.slice a n cap, .int .i64 i] w fun e w' => e = .returned (.bool true) ∧ w' = w := by
  by_cases h1 : n ≤ 1048576
  · have hB := bytes9 a n cap i
    rw [decide_eq_true h1] at hB
    by_cases h2 : 4096 < n
    · have hz : (4096 : Int) < (n : Int) := by omega
      go_enter Try.func4, Try.ntmps4
      go_wp2_with (go_at_call 9; refine (hB _).mono ?_; rintro e w' ⟨rfl, rfl⟩)
      go_ret
      exact ⟨rfl, rfl⟩
    · have hz : ¬ (4096 : Int) < (n : Int) := by omega
      by_cases h3 : n = 0
      · subst h3
        clear h
        go_enter Try.func4, Try.ntmps4
        go_wp2_with (go_at_call 9; refine (hB _).mono ?_; rintro e w' ⟨rfl, rfl⟩)
        go_ret
        exact ⟨rfl, rfl⟩
      · have hz3 : ((n : Int) == 0) = false := beq_false_of_ne (by omega)
        have hz4 : ¬ ((n : Int) = 0) := by omega
        by_cases h4 : i < 0
        · clear h
          have hd4 : decide (i < 0) = true := decide_eq_true h4
          go_enter Try.func4, Try.ntmps4
          go_wp2_with (go_at_call 9; refine (hB _).mono ?_; rintro e w' ⟨rfl, rfl⟩)
          go_ret
          exact ⟨rfl, rfl⟩
        · have h5 : (n : Int) < i := by omega
          have hd4 : decide (i < 0) = false := decide_eq_false h4
          clear h
          go_enter Try.func4, Try.ntmps4
          go_wp2_with (go_at_call 9; refine (hB _).mono ?_; rintro e w' ⟨rfl, rfl⟩)
          go_ret
          exact ⟨rfl, rfl⟩
  · have hB := bytes9 a n cap i
    rw [decide_eq_false h1] at hB
    clear h1 h
    go_enter Try.func4, Try.ntmps4
    go_wp2_with (go_at_call 9; refine (hB _).mono ?_; rintro e w' ⟨rfl, rfl⟩)
    go_ret
    exact ⟨rfl, rfl⟩
end Go.Proofs.Qxb6627713a
