/-
  The row that a sort works on: what the walks of the library's sort say of the world.
-/
import Derived.Test.Qxb6627769aRows
import Derived.Sort.Walk13a
import Derived.WalkKit
import Derived.WalkSpells
import Derived.WalkLawsBesides
namespace Go.Proofs.Qxb6627769a
open Go.RowKit Go.Sort
set_option linter.unusedVariables false

/-- The world w is w0, but that the row of N elements at g, off holds d; draws and new blocks besides. -/
def Arr (w0 : World) (g off N : Nat) (d : Array Int) (w : World) : Prop :=
  At (Value.int .u64) w0 g off d w ∧ d.size = N ∧ g < w0.heap.size ∧ ∃ d0 : Array Int, d0.size = N ∧ Holds (Value.int .u64) w0 g off d0

section
variable {w0 w : World} {g off N : Nat} {d d' : Array Int}

theorem Arr.start (h : Holds (Value.int .u64) w g off d) (hg : g < w.heap.size) : Arr w g off d.size d w := ⟨At.refl h, rfl, hg, d, rfl, h⟩
theorem Arr.size (h : Arr w0 g off N d w) : d.size = N := h.2.1
theorem Arr.holds (h : Arr w0 g off N d w) : Holds (Value.int .u64) w g off d ∧ g < w.heap.size := by
  obtain ⟨h1, h2, h3, d0, h4, h5⟩ := h
  exact h1.holds h5 (by omega) h3
theorem Arr.cell (h : Arr w0 g off N d w) (i : Nat) (hi : i < N) : w.cell? ⟨g, off + i, none⟩ = some ((Value.int .u64) d[i]!) := (h.holds.1 i (by rw [h.size]; exact hi)).1
theorem Arr.frozen (h : Arr w0 g off N d w) (i : Nat) (hi : i < N) : w.frozen? ⟨g, off + i, none⟩ = false := (h.holds.1 i (by rw [h.size]; exact hi)).2
theorem Arr.draws (h : Arr w0 g off N d w) (n : Nat) : Arr w0 g off N d (w.drewN n) := ⟨h.1.ahead n, h.2⟩
theorem Arr.drew (h : Arr w0 g off N d w) : Arr w0 g off N d w.drew := h.draws 1
theorem Arr.alloc (h : Arr w0 g off N d w) (o : Obj) : Arr w0 g off N d (w.alloc o) := by
  obtain ⟨⟨n, os, rfl⟩, h2⟩ := h
  exact ⟨⟨n, os ++ #[o], by rw [alloc_eq_grow, grow_grow]⟩, h2⟩
theorem Arr.le (h : Arr w0 g off N d w) : w0.heap.size ≤ w.heap.size := by
  obtain ⟨⟨n, os, rfl⟩, h2⟩ := h
  simp
theorem Arr.inNew (h : Arr w0 g off N d w) (b o : Nat) (v : Value) (hb : w0.heap.size ≤ b) : Arr w0 g off N d (w.setCell ⟨b, o, none⟩ v) := by
  obtain ⟨⟨n, os, rfl⟩, h2⟩ := h
  exact ⟨⟨n, _, by rw [setCell_eq, mapBlock_grow_new _ _ _ _ (by simpa using hb)]⟩, h2⟩
theorem Arr.swap (h : Arr w0 g off N d w) (i j : Nat) (hi : i < N) (hj : j < N) :
    Arr w0 g off N (swp d i j) ((w.setCell ⟨g, off + i, none⟩ ((Value.int .u64) d[j]!)).setCell ⟨g, off + j, none⟩ ((Value.int .u64) d[i]!)) := by
  obtain ⟨⟨n, os, rfl⟩, h2, h3, h4⟩ := h
  refine ⟨⟨n, os, ?_⟩, by rw [size_swp]; exact h2, h3, h4⟩
  have hg : g < (putRow (Value.int .u64) (Go.Sort.ahead w0 n) g off d).heap.size := by simpa using h3
  rw [setCell_eq, setCell_eq, mapBlock_grow _ _ _ _ hg, mapBlock_grow _ _ _ _ (by simpa [mapBlock] using hg), ← setCell_eq, ← setCell_eq, putRow_swp (Value.int .u64) _ g off d i j (by omega) (by omega)]
/-- Behind the first store of an exchange the second place still holds something (the two may be one). -/
theorem Arr.cell2 (h : Arr w0 g off N d w) (i j : Nat) (hi : i < N) (hj : j < N) (v : Value) : ∃ u, (w.setCell ⟨g, off + i, none⟩ v).cell? ⟨g, off + j, none⟩ = some u := by
  by_cases e : i = j
  · subst e; exact ⟨v, World.cell?_setCell_same _ _ _ (h.cell i hi)⟩
  · exact ⟨_, (World.cell?_setCell_other _ _ _ _ (by intro e'; simp only [Addr.mk.injEq] at e'; omega)).trans (h.cell j hj)⟩
end
end Go.Proofs.Qxb6627769a
