/-
  A row of our own that grows by appends.
-/
import Derived.Test.Qxb6627769aPlain3
import Derived.Test.Qxb6627769aToIDs
import Derived.Test.Qxb6627769aSortOut
import Derived.Maps.AppendAt
namespace Go.Proofs.Qxb6627769a
open Go.RowKit Go.Deep
set_option linter.unusedVariables false

/-- The slice v holds L in a block made since w0 (whose blocks below B are as they were). -/
structure OwnL (B : Nat) (w0 : World) (E : TypeId) (v : Value) (k : Nat) (L : List Int) (w : World) : Prop where
  own : w.ownsRow B E 1 v k (L.map (Value.int .u64))
  blk : ∃ g, v.ownBlock = some g
  below : Below B w0 w
  size : B ≤ w.heap.size

section
variable {B : Nat} {w0 w w1 : World} {E : TypeId} {v v' : Value} {k m : Nat} {L M : List Int}

theorem OwnL.len (h : OwnL B w0 E v k L w) : L.length = k := by have := h.own.1; simpa using this

theorem OwnL.shape (h : OwnL B w0 E v k L w) : ∃ g c cur, v = .slice (some ⟨g, 0, none⟩) k c ∧ B ≤ g ∧ g < w.heap.size ∧ w.heap[g]? = some (.cells cur E (0, 0)) ∧ k ≤ c ∧ c ≤ maxLen ∧ cur.toList.take k = L.map (Value.int .u64) := by
  obtain ⟨g, hg⟩ := h.blk
  rcases h.own.2 with ⟨h0, _⟩ | ⟨g', c, cur, hv, hb, hcur, h1, h2, h3, h4⟩
  · rw [h0] at hg; cases hg
  · exact ⟨g', c, cur, hv, hb, (Array.getElem?_eq_some_iff.1 hcur).1, hcur, h1, h2, by simpa using h4⟩

theorem OwnL.ge (h : OwnL B w0 E v k L w) (g : Nat) (hg : v.ownBlock = some g) : B ≤ g ∧ g < w.heap.size := by
  obtain ⟨g', c, cur, rfl, h1, h2, _⟩ := h.shape
  have : g' = g := Option.some.inj hg
  subst this
  exact ⟨h1, h2⟩

theorem OwnL.row (h : OwnL B w0 E v k L w) : ∃ g c, v = .slice (some ⟨g, 0, none⟩) k c ∧ B ≤ g ∧ g < w.heap.size ∧ k ≤ c ∧ c ≤ maxLen ∧ ∀ j, j < k → w.cell? ⟨g, 0 + j, none⟩ = some ((Value.int .u64) (L.getD j 0)) := by
  have hlen := h.len
  obtain ⟨g, c, cur, hv, h1, h2, h3, h4, h5, h6⟩ := h.shape
  refine ⟨g, c, hv, h1, h2, h4, h5, fun j hj => ?_⟩
  have h7 : (cur.toList.take k)[j]? = (L.map (Value.int .u64))[j]? := by rw [h6]
  rw [List.getElem?_take_of_lt hj] at h7
  simp only [World.cell?, h3, Nat.zero_add]
  simp only [Option.isSome_none, Bool.false_eq_true, if_false]
  rw [← Array.getElem?_toList, h7]
  simp [show j < L.length by omega]

theorem OwnL.start (h : w1.ownsRow B E 1 (.slice (some ⟨m, 0, none⟩) 0 k) 0 []) (hg : w.grownBy w1 none) (hb : Below B w0 w) (hs : B ≤ w.heap.size) : OwnL B w0 E (.slice (some ⟨m, 0, none⟩) 0 k) 0 [] w1 :=
  ⟨h, ⟨m, rfl⟩, hb.grown hg hs (fun k e => by cases e), Nat.le_trans hs hg.size⟩

theorem OwnL.more (h : OwnL B w0 E v k L w) (hown : w1.ownsRow B E 1 v' (k + m) (L.map (Value.int .u64) ++ M.map (Value.int .u64))) (hg : w.grownBy w1 v.ownBlock) (hat : v'.ownBlock = v.ownBlock ∨ v'.ownBlock = some w.heap.size) : OwnL B w0 E v' (k + m) (L ++ M) w1 := by
  refine ⟨by rw [List.map_append]; exact hown, ?_, h.below.grown hg h.size (fun j e => (h.ge j e).1), Nat.le_trans h.size hg.size⟩
  rcases hat with e | e
  · rw [e]; exact h.blk
  · exact ⟨_, e⟩

theorem OwnL.push {y : Int} {o : Obj} (h : OwnL B w0 E v k L w) (hown : w1.ownsRow B E 1 v' (k + 1) (L.map (Value.int .u64) ++ [(Value.int .u64) y])) (hg : (w.alloc o).grownBy w1 v.ownBlock) (hat : v'.ownBlock = v.ownBlock ∨ v'.ownBlock = some (w.alloc o).heap.size) : OwnL B w0 E v' (k + 1) (L ++ [y]) w1 := by
  have h2 : OwnL B w0 E v k L (w.alloc o) := ⟨h.own.alloc o, h.blk, h.below.alloc h.size o, by have := h.size; simp; omega⟩
  exact h2.more (M := [y]) hown hg hat

theorem OwnL.draws (h : OwnL B w0 E v k L w) (n : Nat) : OwnL B w0 E v k L (w.drewN n) :=
  ⟨h.own, h.blk, h.below.trans ((Dn.draws (Dn.refl w) n).below B), h.size⟩
end

theorem getD_upto (L : List Int) : upto (fun j => L.getD j 0) L.length = L := by
  apply List.ext_getElem
  · rw [upto_length]
  · intro i h1 h2
    rw [upto_get]
    simp [h2]

theorem nums_one (l : List Int) : ∀ u ∈ l.map (Value.int .u64), u.oneCell' = true := fun u hu => by
  obtain ⟨x, _, rfl⟩ := List.mem_map.1 hu
  rfl

theorem part_cell {w : World} {g off n i m : Nat} {f : Nat → Int} (hc : ∀ j, j < n → w.cell? ⟨g, off + j, none⟩ = some ((Value.int .u64) (f j))) (hi : i + m ≤ n) (j : Nat) (x : Value) (hx : ((upto (fun t => f (i + t)) m).map (Value.int .u64))[j]? = some x) : w.cell? (Addr.add ⟨g, off + i, none⟩ j) = some x := by
  have hj : j < m := by
    have := (List.getElem?_eq_some_iff.1 hx).1
    simpa [upto_length] using this
  have h1 := hc (i + j) (by omega)
  rw [Addr.add_lit, show off + i + j = off + (i + j) by omega, h1, ← hx]
  simp [upto, hj]
theorem head_cell {w : World} {g off n m : Nat} {f : Nat → Int} (hc : ∀ j, j < n → w.cell? ⟨g, off + j, none⟩ = some ((Value.int .u64) (f j))) (hi : m ≤ n) (j : Nat) (x : Value) (hx : ((upto f m).map (Value.int .u64))[j]? = some x) : w.cell? (Addr.add ⟨g, off, none⟩ j) = some x := by
  have hj : j < m := by
    have := (List.getElem?_eq_some_iff.1 hx).1
    simpa [upto_length] using this
  have h1 := hc j (by omega)
  rw [Addr.add_lit, h1, ← hx]
  simp [upto, hj]
end Go.Proofs.Qxb6627769a
