/-
  From the sort's row to the caller's world, and back.
-/
import Derived.Test.Qxb6627769aSortTop
namespace Go.Proofs.Qxb6627769a
open Go.RowKit Go.Sort
set_option linter.unusedVariables false

theorem Arr.grown {w0 w : World} {g off N : Nat} {d : Array Int} (h : Arr w0 g off N d w) : w0.grownBy w (some g) := by
  obtain ⟨⟨n, os, rfl⟩, h2⟩ := h
  refine ⟨rfl, rfl, rfl, by simp, fun k hk hne => ?_⟩
  rw [heap_grow_old _ _ (by simpa using hk)]
  have : g ≠ k := fun e => hne (by rw [e])
  simp [putRow, mapBlock, Go.Sort.ahead, Array.getElem?_modify, this]

theorem Arr.below {w0 w : World} {g off N B : Nat} {d : Array Int} (h : Arr w0 g off N d w) (hg : B ≤ g) (hs : B ≤ w0.heap.size) : Go.RowKit.Below B w0 w :=
  ⟨h.grown.os, h.grown.tape, h.grown.output, h.grown.size, fun k hk => h.grown.block k (by omega) (by intro e; cases e; omega)⟩

theorem holds_of_row {w : World} {g : Nat} {cur : Array Value} {e : TypeId} {l : List Int} (hb : w.heap[g]? = some (.cells cur e (0, 0))) (ht : cur.toList.take l.length = l.map (Value.int .u64)) : Holds (Value.int .u64) w g 0 l.toArray := by
  intro j hj
  have hj' : j < l.length := by simpa using hj
  refine ⟨?_, by simp [World.frozen?, hb]⟩
  have h1 : (cur.toList.take l.length)[j]? = (l.map (Value.int .u64))[j]? := by rw [ht]
  rw [List.getElem?_take_of_lt hj'] at h1
  simp only [World.cell?, hb, Nat.zero_add]
  simp only [Option.isSome_none, Bool.false_eq_true, if_false]
  rw [← Array.getElem?_toList, h1]
  simp [hj']
end Go.Proofs.Qxb6627769a
