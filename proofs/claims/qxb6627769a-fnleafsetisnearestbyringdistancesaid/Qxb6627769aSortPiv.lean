/-
  The library's choice of a pivot: two in order, the median of three.
-/
import Derived.Test.Qxb6627769aSortIns
import Derived.Sort.LotD4
namespace Go.Proofs.Qxb6627769a
open Go.RowKit Go.Sort
set_option linter.unusedVariables false

/-- The row is at d; the counter, a new variable, is at s. -/
def Cnt (w0 : World) (g off N : Nat) (d : Array Int) (cb s : Nat) (w : World) : Prop :=
  Arr w0 g off N d w ∧ w.cell? ⟨cb, 0, none⟩ = some (.int .i64 (s : Int)) ∧ w.frozen? ⟨cb, 0, none⟩ = false ∧ w0.heap.size ≤ cb

theorem Cnt.draws {w0 w : World} {g off N cb s : Nat} {d : Array Int} (h : Cnt w0 g off N d cb s w) (n : Nat) : Cnt w0 g off N d cb s (w.drewN n) := ⟨h.1.draws n, h.2.1, h.2.2.1, h.2.2.2⟩
theorem Cnt.put {w0 w : World} {g off N cb s : Nat} {d : Array Int} (h : Cnt w0 g off N d cb s w) (t : Nat) : Cnt w0 g off N d cb t (w.setCell ⟨cb, 0, none⟩ (.int .i64 (t : Int))) :=
  ⟨h.1.inNew _ _ _ h.2.2.2, World.cell?_setCell_same _ _ _ h.2.1, by rw [World.frozen?_setCell]; exact h.2.2.1, h.2.2.2⟩

set_option maxHeartbeats 2000000 in
theorem two (w0 : World) (g off N cap a b cb s : Nat) (d : Array Int) (w : World) (hC : Cnt w0 g off N d cb s w) (ha : a < N) (hb : b < N) (hN : N < 4611686018427387904) (hs : s < 1000) :
    Calls Try.prog 32 #[.slice (some ⟨g, off, none⟩) N cap, .int .i64 a, .int .i64 b, .pointer (some ⟨cb, 0, none⟩)] w fun e w' =>
      e = .returned (.tuple #[.int .i64 ((order2 ult d a b s).1 : Nat), .int .i64 ((order2 ult d a b s).2.1 : Nat)]) ∧ Hid (Cnt w0 g off N d cb (order2 ult d a b s).2.2 w') := by
  have HC : Hid (Cnt w0 g off N d cb s w) := hC
  obtain ⟨G, hG⟩ : ∃ G : Nat → Int, ∀ t, G t = d[t]! := ⟨fun t => d[t]!, fun _ => rfl⟩
  have hcw : ∀ t, t < N → w.cell? ⟨g, off + t, none⟩ = some (.int .u64 (G t)) := fun t ht => by rw [hG]; exact hC.1.cell t ht
  have hc := hC.2.1
  have hf := hC.2.2.1
  clear hC
  generalize hR : order2 ult d a b s = R
  unfold order2 at hR
  rw [← hG, ← hG] at hR
  clear hG
  have HR : Hid ((if ult (G b) (G a) = true then (b, a, s + 1) else (a, b, s)) = R) := hR
  clear hR
  go_enter Try.func32, Try.ntmps32
  go_wp2
  go_quiet (first | (go_at_call 12; refine Calls.quiet_of_same (less _ _ _)))
  have HC2 : Hid (Cnt w0 g off N d cb s (w.drewN nq)) := HC.out.draws nq
  clear HC
  go_wp2
  · have hl : ult (G b) (G a) = true := by assumption
    have hR := HR.out
    rw [if_pos hl] at hR
    subst hR
    go_ret2
    exact ⟨rfl, HC2.out.put (s + 1)⟩
  · have hl : ult (G b) (G a) = false := by assumption
    have hR := HR.out
    rw [if_neg (by rw [hl]; exact Bool.false_ne_true)] at hR
    subst hR
    go_ret2
    exact ⟨rfl, HC2⟩

/-- What two in order are: one of the two, the other; the counter at most one more. -/
theorem two_mem (lt : Int → Int → Bool) (d : Array Int) (a b s N : Nat) (ha : a < N) (hb : b < N) : (order2 lt d a b s).1 < N ∧ (order2 lt d a b s).2.1 < N ∧ (order2 lt d a b s).2.2 ≤ s + 1 := by
  refine ⟨?_, ?_, order2_count lt d a b s⟩
  · rcases order2_mem lt d a b s with h | h <;> omega
  · rcases order2_mem lt d a b s with h | h <;> omega

set_option maxHeartbeats 2000000 in
theorem med (w0 : World) (g off N cap a b c cb s : Nat) (d : Array Int) (w : World) (hC : Cnt w0 g off N d cb s w) (ha : a < N) (hb : b < N) (hc : c < N) (hN : N < 4611686018427387904) (hs : s < 900) :
    Calls Try.prog 31 #[.slice (some ⟨g, off, none⟩) N cap, .int .i64 a, .int .i64 b, .int .i64 c, .pointer (some ⟨cb, 0, none⟩)] w fun e w' =>
      e = .returned (.int .i64 ((median ult d a b c s).1 : Nat)) ∧ Hid (Cnt w0 g off N d cb (median ult d a b c s).2 w') := by
  have c1 := two w0 g off N cap a b cb s d w hC ha hb hN (by omega)
  have m1 := two_mem ult d a b s N ha hb
  generalize hR : median ult d a b c s = R
  unfold median at hR
  simp only [] at hR
  generalize order2 ult d a b s = r1 at c1 m1 hR
  obtain ⟨x1, y1, s1⟩ := r1
  simp only [] at c1 m1 hR
  have HR : Hid _ := hR
  clear hR hC
  go_enter Try.func31, Try.ntmps31
  go_upto_region 2 with (first | (go_at_call 32; refine c1.mono ?_; rintro e w1 ⟨rfl, HC1⟩))
  have c2 := two w0 g off N cap y1 c cb s1 d w1 HC1 (by omega) hc hN (by omega)
  have m2 := two_mem ult d y1 c s1 N (by omega) hc
  have hR := HR.out
  generalize order2 ult d y1 c s1 = r2 at c2 m2 hR
  obtain ⟨x2, y2, s2⟩ := r2
  simp only [] at c2 m2 hR
  clear HR c1 HC1
  have HR : Hid _ := hR
  clear hR
  go_upto_region 3 with (first | (go_at_call 32; refine c2.mono ?_; rintro e w2 ⟨rfl, HC2⟩))
  have c3 := two w0 g off N cap x1 x2 cb s2 d w2 HC2 (by omega) (by omega) hN (by omega)
  have hR := HR.out
  generalize order2 ult d x1 x2 s2 = r3 at c3 hR
  obtain ⟨x3, y3, s3⟩ := r3
  simp only [] at c3 hR
  clear HR c2 HC2
  subst hR
  go_wp2_with (first | (go_at_call 32; refine c3.mono ?_; rintro e w3 ⟨rfl, HC3⟩))
  go_ret
  exact ⟨rfl, HC3⟩

set_option maxHeartbeats 2000000 in
theorem medAdj (w0 : World) (g off N cap a cb s : Nat) (d : Array Int) (w : World) (hC : Cnt w0 g off N d cb s w) (ha : 1 ≤ a) (ha2 : a + 1 < N) (hN : N < 4611686018427387904) (hs : s < 900) :
    Calls Try.prog 30 #[.slice (some ⟨g, off, none⟩) N cap, .int .i64 a, .pointer (some ⟨cb, 0, none⟩)] w fun e w' =>
      e = .returned (.int .i64 ((medianAdjacent ult d a s).1 : Nat)) ∧ Hid (Cnt w0 g off N d cb (medianAdjacent ult d a s).2 w') := by
  have c1 := med w0 g off N cap (a - 1) a (a + 1) cb s d w hC (by omega) (by omega) (by omega) hN hs
  generalize hR : medianAdjacent ult d a s = R
  unfold medianAdjacent at hR
  rw [hR] at c1
  rw [show ((a - 1 : Nat) : Int) = (a : Int) - 1 by omega, show ((a + 1 : Nat) : Int) = (a : Int) + 1 by omega] at c1
  clear hR hC
  go_enter Try.func30, Try.ntmps30
  go_wp2_with (first | (go_at_call 31; refine c1.mono ?_; rintro e w1 ⟨rfl, HC1⟩))
  go_ret
  exact ⟨rfl, HC1⟩
end Go.Proofs.Qxb6627769a
