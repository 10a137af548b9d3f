/-
  slices.Collect, slices.Sorted; the median.
-/
import Derived.Test.Qxb6627713aIter
import Derived.Test.Qxb6627713aStat
import Derived.Test.Qxb6627713aSortOut
namespace Go.Proofs.Qxb6627713a
open Go.RowKit
open Go.Sort (Holds SWO PermIn SortedIn)
set_option linter.unusedVariables false

/-- The slice at g holds the list l; what lay below B is as it was. -/
def Laid (B : Nat) (w0 : World) (l : List Nat) (g : Nat) (w : World) : Prop := B ≤ g ∧ g < w.heap.size ∧ Holds (Value.float .f64) w g 0 l.toArray ∧ Below B w0 w

theorem Laid.cell {B : Nat} {w0 w : World} {l : List Nat} {g : Nat} (h : Laid B w0 l g w) (t : Nat) (ht : t < l.length) : w.cell? ⟨g, t, none⟩ = some (.float .f64 l[t]!) := by
  have := (h.2.2.1 t (by simpa using ht)).1
  rw [Nat.zero_add] at this
  rw [this]
  simp

set_option maxHeartbeats 1000000 in
theorem collect (Bs n₀ b off len cap : Nat) (f : Nat → Nat) (hreach : len ≤ 1048576) (hlen : 0 < len) (w : World) (hBs : Bs < w.heap.size) (hn₀ : n₀ ≤ w.heap.size)
    (hc : w.cell? ⟨Bs, 0, none⟩ = some (.slice (some ⟨b, off, none⟩) len cap)) (hb : b < n₀) (hcs : ∀ j, j < len → w.cell? ⟨b, off + j, none⟩ = some (.float .f64 (f j))) :
    Calls Try.prog 15 #[.func (.func 17) #[] #[.pointer (some ⟨Bs, 0, none⟩)]] w fun e w' => ∃ g c, e = .returned (.slice (some ⟨g, 0, none⟩) len c) ∧ Hid (Laid w.heap.size w (upto f len) g w') := by
  have hC : Calls Try.prog 18 #[.slice none 0 0, .func (.func 17) #[] #[.pointer (some ⟨Bs, 0, none⟩)]] w fun e w' => ∃ g c, e = .returned (.slice (some ⟨g, 0, none⟩) len c) ∧ Hid (Laid w.heap.size w (upto f len) g w') := by
    refine (callsIn_wide.1 (appendSeq_in Fence.wide 3 trivial trivial rfl (by omega) Bs n₀ b off len cap f hreach w hBs hn₀ hc hb hcs)).mono ?_
    rintro e w' ⟨v, rfl, hown, hB⟩
    rcases hown.2 with ⟨_, h0⟩ | ⟨g, c, cur, rfl, hg, hcur, h1, h2, h3, h4⟩
    · omega
    · refine ⟨g, c, rfl, hg, (Array.getElem?_eq_some_iff.1 hcur).1, holds_of_row hcur ?_, hB⟩
      rw [upto_length]
      simpa using h4
  clear hc hcs
  go_enter Try.func15, Try.ntmps15
  go_wp2_with (go_at_call 18; refine hC.mono ?_; rintro e w' ⟨g, c, rfl, HL⟩)
  go_ret
  exact ⟨g, c, rfl, HL⟩

/-- A slice at g that holds l put into order. -/
def Ordered (B : Nat) (w0 : World) (l : List Nat) (g : Nat) (w : World) : Prop := ∃ s : List Nat, s.Perm l ∧ (∀ i j (hi : i < s.length) (hj : j < s.length), i < j → flt s[j] s[i] = false) ∧ Laid B w0 s g w

theorem ordered_of {B : Nat} {w0 w1 w : World} {l : List Nat} {g : Nat} (h1 : Laid B w0 l g w1) (hB : B ≤ w1.heap.size) (h2 : Srtd w1 g 0 l.toArray.size 0 l.toArray.size l.toArray w) : Ordered B w0 l g w := by
  obtain ⟨d, hp, hs, hA⟩ := h2
  have hsz : d.size = l.length := by rw [hp.1]; simp
  refine ⟨d.toList, ?_, ?_, h1.1, hA.holds.2, ?_, h1.2.2.2.trans (hA.below h1.1 hB)⟩
  · have h3 := hp.2.2
    have e1 : d.extract 0 l.toArray.size = d := by
      rw [show l.toArray.size = d.size by rw [hsz]; simp]
      simp
    have e2 : l.toArray.extract 0 l.toArray.size = l.toArray := by simp
    rw [e1, e2] at h3
    simpa using h3
  · intro i j hi hj hij
    have h3 := hs i j (Nat.zero_le _) hij (by simp at hj ⊢; omega)
    simp only [Array.length_toList] at hi hj
    rw [getElem!_pos d j hj, getElem!_pos d i hi] at h3
    simpa using h3
  · have h3 := hA.holds.1
    simpa using h3

set_option maxHeartbeats 1000000 in
theorem sorted (Bs n₀ b off len cap : Nat) (f : Nat → Nat) (hreach : len ≤ 1048576) (hlen : 0 < len) (w : World) (hBs : Bs < w.heap.size) (hn₀ : n₀ ≤ w.heap.size)
    (hc : w.cell? ⟨Bs, 0, none⟩ = some (.slice (some ⟨b, off, none⟩) len cap)) (hb : b < n₀) (hcs : ∀ j, j < len → w.cell? ⟨b, off + j, none⟩ = some (.float .f64 (f j))) :
    Calls Try.prog 12 #[.func (.func 17) #[] #[.pointer (some ⟨Bs, 0, none⟩)]] w fun e w' => ∃ g c, e = .returned (.slice (some ⟨g, 0, none⟩) len c) ∧ Hid (Ordered w.heap.size w (upto f len) g w') := by
  have hC := collect Bs n₀ b off len cap f hreach hlen w hBs hn₀ hc hb hcs
  have HL : Hid ((upto f len).toArray.size = len) := by show _ = _; simp [upto_length]
  clear hc hcs
  go_enter Try.func12, Try.ntmps12
  go_upto_region 2 with (go_at_call 15; refine hC.mono ?_; rintro e w1 ⟨g, c, rfl, HD⟩)
  have hS := sorts swoE g 0 c (upto f len).toArray w1 HD.out.2.2.1 HD.out.2.1 (by rw [HL.out]; omega)
  have HB : Hid (w.heap.size ≤ w1.heap.size) := HD.out.2.2.2.size
  have HF : Hid (∀ w', Srtd w1 g 0 (upto f len).toArray.size 0 (upto f len).toArray.size (upto f len).toArray w' → Ordered w.heap.size w (upto f len) g w') := fun w' h => ordered_of HD.out HB.out h
  rw [HL.out] at hS
  have HF2 : Hid (∀ w', Srtd w1 g 0 len 0 len (upto f len).toArray w' → Ordered w.heap.size w (upto f len) g w') := by
    have := HF.out
    rw [HL.out] at this
    exact this
  clear hC HF HD
  go_wp2_with (go_at_call 16; refine hS.mono ?_; rintro e w2 ⟨rfl, HS⟩)
  go_ret
  exact ⟨g, c, rfl, HF2.out _ HS.out⟩
end Go.Proofs.Qxb6627713a
