/-
  Two rows of our own, that grow side by side.
-/
import Derived.Test.Qxb6627769aLeaf
import Derived.Test.Qxb6627769aPlain4
namespace Go.Proofs.Qxb6627769a
open Go.RowKit Go.Deep
set_option linter.unusedVariables false

structure Two (B : Nat) (w0 : World) (v : Value) (k : Nat) (L : List Int) (u : Value) (m : Nat) (M : List Int) (w : World) : Prop where
  one : OwnL B w0 28 v k L w
  two : OwnL B w0 28 u m M w
  ap : v.ownBlock ≠ u.ownBlock

section
variable {B : Nat} {w0 w w1 : World} {v u v' : Value} {k m : Nat} {L M : List Int}

theorem OwnL.stays {E : TypeId} {o : Obj} {a : Value} (h : OwnL B w0 E v k L w) (hg : (w.alloc o).grownBy w1 a.ownBlock) (hne : v.ownBlock ≠ a.ownBlock) (hb : Below B w0 w1) : OwnL B w0 E v k L w1 := by
  refine ⟨(h.own.alloc o).kept hg ?_, h.blk, hb, ?_⟩
  · obtain ⟨g, hg⟩ := h.blk
    right
    first | exact hne | exact hne.symm | (intro e; exact hne e) | (intro e; exact hne e.symm)
  · have h1 := h.size
    have h2 := hg.size
    simp at h2
    omega

theorem Two.push1 {y : Int} {o : Obj} (h : Two B w0 v k L u m M w) (hown : w1.ownsRow B 28 1 v' (k + 1) (L.map (Value.int .u64) ++ [Value.int .u64 y])) (hg : (w.alloc o).grownBy w1 v.ownBlock) (hat : v'.ownBlock = v.ownBlock ∨ v'.ownBlock = some (w.alloc o).heap.size) : Two B w0 v' (k + 1) (L ++ [y]) u m M w1 := by
  have h1 := h.one.push hown hg hat
  refine ⟨h1, h.two.stays hg h.ap.symm h1.below, ?_⟩
  rcases hat with e | e
  · rw [e]; exact h.ap
  · obtain ⟨g, hg⟩ := h.two.blk
    have h2 := (h.two.ge g hg).2
    rw [e, hg]
    intro e2
    have := Option.some.inj e2
    simp at this
    omega
theorem Two.push2 {y : Int} {o : Obj} (h : Two B w0 v k L u m M w) (hown : w1.ownsRow B 28 1 v' (m + 1) (M.map (Value.int .u64) ++ [Value.int .u64 y])) (hg : (w.alloc o).grownBy w1 u.ownBlock) (hat : v'.ownBlock = u.ownBlock ∨ v'.ownBlock = some (w.alloc o).heap.size) : Two B w0 v k L v' (m + 1) (M ++ [y]) w1 := by
  have h0 : Two B w0 u m M v k L w := ⟨h.two, h.one, h.ap.symm⟩
  have h1 := h0.push1 hown hg hat
  exact ⟨h1.two, h1.one, h1.ap.symm⟩
theorem Two.cell (h : Two B w0 v k L u m M w) {b off j : Nat} {x : Value} (hb : b < B) (hc : w0.cell? ⟨b, off + j, none⟩ = some x) : w.cell? ⟨b, off + j, none⟩ = some x := (h.one.below.cell (p := ⟨b, off + j, none⟩) hb).trans hc

theorem OwnL.later {E : TypeId} (h : OwnL B w0 E v k L w) (hb : Below w.heap.size w w1) : OwnL B w0 E v k L w1 := by
  obtain ⟨g, c, cur, hv, h1, h2, h3, h4, h5, h6⟩ := h.shape
  refine ⟨⟨h.own.1, Or.inr ?_⟩, h.blk, h.below.trans (hb.mono h.size), Nat.le_trans h.size hb.size⟩
  rcases h.own.2 with ⟨h0, _⟩ | ⟨g', c', cur', hv', hb', hcur', r⟩
  · rw [hv] at h0; cases h0
  · rw [hv] at hv'
    cases hv'
    exact ⟨g, c, cur', hv, h1, (hb.block g h2).trans hcur', r⟩

theorem leafset_own {E : TypeId} {x : Int} {l : Nat} (h : OwnL B w0 E v k L w) (hk : k ≤ 65536) (hl : l ≤ 65536) (hA : Asc L) (hU : U64 L) (hx : 0 ≤ x ∧ x < 18446744073709551616) : ∃ g c, v = .slice (some ⟨g, 0, none⟩) k c ∧ Calls Try.prog 7 #[.int .u64 x, .slice (some ⟨g, 0, none⟩) k c, .int .i64 (l : Int)] w fun e w' => LeafEnd (lsl x L l) w e w' := by
  have hlen := h.len
  obtain ⟨g, c, hv, h1, h2, h3, h4, h5⟩ := h.row
  refine ⟨g, c, hv, ?_⟩
  have hc := leafset g 0 k c l (fun j => L.getD j 0) x w hk h3 hl h2 h5 (by have := grows_of_asc hA; rwa [hlen] at this) (fun j hj => u64_of hU j (by omega)) hx
  have e : upto (fun j => L.getD j 0) k = L := by rw [← hlen]; exact getD_upto L
  rw [e] at hc
  exact hc
end

/-- What the law's last loops are told: the two leafsets' numbers, the ring. -/
structure Ans (x : Int) (f : Nat → Int) (n l m : Nat) (G : Nat → Int) (N : Nat) : Prop where
  N_eq : N = if 2 * l < m then 2 * l else m
  ne : ∀ k, k < N → G k ≠ x
  up : Grows G N
  mem : ∀ k, k < N → ∃ j, j < n ∧ f j = G k

theorem ans_of {x : Int} {f : Nat → Int} {n l m : Nat} {L : List Int} {N : Nat} (h : Good x f n l L N m) : Ans x f n l m (fun j => L.getD j 0) N := ⟨h.N_eq, h.ne, h.up, h.mem⟩
end Go.Proofs.Qxb6627769a
