/-
  HOW THE SEARCH LIES IN MEMORY: the blocks that stronglyConnected makes, from block N on.
-/
import Derived.Test.Qxb6627646aReads
import Derived.Test.Qxb6627646aPlain
import Derived.Test.Qxb6627646aPerm
import Derived.Maps.AppendAt
import Derived.WalkSmall
namespace Go.Proofs.Qxb6627646a
open Go.RowKit Go.Deep
set_option linter.unusedVariables false

def natV (k : Nat) : Value := .int .i64 (k : Int)

def visitFn (N : Nat) : Value := .func (.func 15) #[] #[.pointer (some ⟨N + 9, 0, none⟩), .pointer (some ⟨N + 2, 0, none⟩), .pointer (some ⟨N + 4, 0, none⟩), .pointer (some ⟨N + 7, 0, none⟩), .pointer (some ⟨N + 6, 0, none⟩), .pointer (some ⟨N, 0, none⟩), .pointer (some ⟨N + 10, 0, none⟩), .pointer (some ⟨N + 8, 0, none⟩)]

/-- The blocks below N + 12. -/
structure Fix (N n : Nat) (vd : Value) (s : St) (vs vc : Value) (w : World) : Prop where
  size : N + 12 ≤ w.heap.size
  c0 : w.cell? ⟨N, 0, none⟩ = some vd
  r1 : w.rowIs (N + 1) 3 n (fun j => .int .i64 (s.ord j))
  c2 : w.cell? ⟨N + 2, 0, none⟩ = some (.slice (some ⟨N + 1, 0, none⟩) n n)
  r3 : w.rowIs (N + 3) 3 n (fun j => .int .i64 (s.low j))
  c4 : w.cell? ⟨N + 4, 0, none⟩ = some (.slice (some ⟨N + 3, 0, none⟩) n n)
  r5 : w.rowIs (N + 5) 4 n (fun j => .bool (s.on j))
  c6 : w.cell? ⟨N + 6, 0, none⟩ = some (.slice (some ⟨N + 5, 0, none⟩) n n)
  c7 : w.cell? ⟨N + 7, 0, none⟩ = some vs
  f7 : w.frozen? ⟨N + 7, 0, none⟩ = false
  c8 : w.cell? ⟨N + 8, 0, none⟩ = some vc
  f8 : w.frozen? ⟨N + 8, 0, none⟩ = false
  c9 : w.cell? ⟨N + 9, 0, none⟩ = some (.int .i64 (s.next : Int))
  f9 : w.frozen? ⟨N + 9, 0, none⟩ = false
  c10 : w.cell? ⟨N + 10, 0, none⟩ = some (visitFn N)
  r11 : w.rowIs (N + 11) 3 n (fun j => .int .i64 (j : Int))

section
variable {N n : Nat} {vd : Value} {s : St} {vs vc : Value} {w w' : World}

theorem Fix.keep (h : Fix N n vd s vs vc w) (hs : w.heap.size ≤ w'.heap.size) (hk : ∀ k, k < N + 12 → w'.heap[k]? = w.heap[k]?) : Fix N n vd s vs vc w' := by
  have hc : ∀ b, b < N + 12 → w'.cell? ⟨b, 0, none⟩ = w.cell? ⟨b, 0, none⟩ := fun b hb => World.cell?_of_block (hk b hb)
  have hf : ∀ b, b < N + 12 → w'.frozen? ⟨b, 0, none⟩ = w.frozen? ⟨b, 0, none⟩ := fun b hb => World.frozen?_of_block (hk b hb)
  exact ⟨Nat.le_trans h.size hs, (hc _ (by omega)).trans h.c0, h.r1.of_block (hk _ (by omega)), (hc _ (by omega)).trans h.c2, h.r3.of_block (hk _ (by omega)), (hc _ (by omega)).trans h.c4,
    h.r5.of_block (hk _ (by omega)), (hc _ (by omega)).trans h.c6, (hc _ (by omega)).trans h.c7, (hf _ (by omega)).trans h.f7, (hc _ (by omega)).trans h.c8, (hf _ (by omega)).trans h.f8,
    (hc _ (by omega)).trans h.c9, (hf _ (by omega)).trans h.f9, (hc _ (by omega)).trans h.c10, h.r11.of_block (hk _ (by omega))⟩

theorem set_other {b i c : Nat} {v : Value} (h : b ≠ c) : (w.setCell ⟨b, i, none⟩ v).cell? ⟨c, 0, none⟩ = w.cell? ⟨c, 0, none⟩ :=
  World.cell?_of_block (blk_setCell_other _ _ _ _ (by show c ≠ b; omega))

theorem set_size (a : Addr) (v : Value) : (w.setCell a v).heap.size = w.heap.size := by simp [World.setCell]

theorem Fix.setOrd (h : Fix N n vd s vs vc w) (i : Nat) (x : Int) : Fix N n vd { s with ord := upd s.ord i x } vs vc (w.setCell ⟨N + 1, i, none⟩ (.int .i64 x)) := by
  refine ⟨by rw [set_size]; exact h.size, ?_, ?_, ?_, ?_, ?_, ?_, ?_, ?_, ?_, ?_, ?_, ?_, ?_, ?_, ?_⟩
  · rw [set_other (by omega)]; exact h.c0
  · refine (h.r1.set i _).congr fun j _ => ?_
    by_cases e : j = i
    · simp [e, upd_same]
    · simp [e, upd_other]
  · rw [set_other (by omega)]; exact h.c2
  · exact h.r3.setOther (by show N + 3 ≠ N + 1; omega) _
  · rw [set_other (by omega)]; exact h.c4
  · exact h.r5.setOther (by show N + 5 ≠ N + 1; omega) _
  · rw [set_other (by omega)]; exact h.c6
  · rw [set_other (by omega)]; exact h.c7
  · rw [World.frozen?_setCell]; exact h.f7
  · rw [set_other (by omega)]; exact h.c8
  · rw [World.frozen?_setCell]; exact h.f8
  · rw [set_other (by omega)]; exact h.c9
  · rw [World.frozen?_setCell]; exact h.f9
  · rw [set_other (by omega)]; exact h.c10
  · exact h.r11.setOther (by show N + 11 ≠ N + 1; omega) _

theorem Fix.setLow (h : Fix N n vd s vs vc w) (i : Nat) (x : Int) : Fix N n vd { s with low := upd s.low i x } vs vc (w.setCell ⟨N + 3, i, none⟩ (.int .i64 x)) := by
  refine ⟨by rw [set_size]; exact h.size, ?_, ?_, ?_, ?_, ?_, ?_, ?_, ?_, ?_, ?_, ?_, ?_, ?_, ?_, ?_⟩
  · rw [set_other (by omega)]; exact h.c0
  · exact h.r1.setOther (by show N + 1 ≠ N + 3; omega) _
  · rw [set_other (by omega)]; exact h.c2
  · refine (h.r3.set i _).congr fun j _ => ?_
    by_cases e : j = i
    · simp [e, upd_same]
    · simp [e, upd_other]
  · rw [set_other (by omega)]; exact h.c4
  · exact h.r5.setOther (by show N + 5 ≠ N + 3; omega) _
  · rw [set_other (by omega)]; exact h.c6
  · rw [set_other (by omega)]; exact h.c7
  · rw [World.frozen?_setCell]; exact h.f7
  · rw [set_other (by omega)]; exact h.c8
  · rw [World.frozen?_setCell]; exact h.f8
  · rw [set_other (by omega)]; exact h.c9
  · rw [World.frozen?_setCell]; exact h.f9
  · rw [set_other (by omega)]; exact h.c10
  · exact h.r11.setOther (by show N + 11 ≠ N + 3; omega) _

theorem Fix.setOn (h : Fix N n vd s vs vc w) (i : Nat) (x : Bool) : Fix N n vd { s with on := upd s.on i x } vs vc (w.setCell ⟨N + 5, i, none⟩ (.bool x)) := by
  refine ⟨by rw [set_size]; exact h.size, ?_, ?_, ?_, ?_, ?_, ?_, ?_, ?_, ?_, ?_, ?_, ?_, ?_, ?_, ?_⟩
  · rw [set_other (by omega)]; exact h.c0
  · exact h.r1.setOther (by show N + 1 ≠ N + 5; omega) _
  · rw [set_other (by omega)]; exact h.c2
  · exact h.r3.setOther (by show N + 3 ≠ N + 5; omega) _
  · rw [set_other (by omega)]; exact h.c4
  · refine (h.r5.set i _).congr fun j _ => ?_
    by_cases e : j = i
    · simp [e, upd_same]
    · simp [e, upd_other]
  · rw [set_other (by omega)]; exact h.c6
  · rw [set_other (by omega)]; exact h.c7
  · rw [World.frozen?_setCell]; exact h.f7
  · rw [set_other (by omega)]; exact h.c8
  · rw [World.frozen?_setCell]; exact h.f8
  · rw [set_other (by omega)]; exact h.c9
  · rw [World.frozen?_setCell]; exact h.f9
  · rw [set_other (by omega)]; exact h.c10
  · exact h.r11.setOther (by show N + 11 ≠ N + 5; omega) _

theorem Fix.setNext (h : Fix N n vd s vs vc w) (x : Nat) : Fix N n vd { s with next := x } vs vc (w.setCell ⟨N + 9, 0, none⟩ (.int .i64 (x : Int))) := by
  refine ⟨by rw [set_size]; exact h.size, ?_, ?_, ?_, ?_, ?_, ?_, ?_, ?_, ?_, ?_, ?_, ?_, ?_, ?_, ?_⟩
  · rw [set_other (by omega)]; exact h.c0
  · exact h.r1.setOther (by show N + 1 ≠ N + 9; omega) _
  · rw [set_other (by omega)]; exact h.c2
  · exact h.r3.setOther (by show N + 3 ≠ N + 9; omega) _
  · rw [set_other (by omega)]; exact h.c4
  · exact h.r5.setOther (by show N + 5 ≠ N + 9; omega) _
  · rw [set_other (by omega)]; exact h.c6
  · rw [set_other (by omega)]; exact h.c7
  · rw [World.frozen?_setCell]; exact h.f7
  · rw [set_other (by omega)]; exact h.c8
  · rw [World.frozen?_setCell]; exact h.f8
  · exact World.cell?_setCell_same _ _ _ h.c9
  · rw [World.frozen?_setCell]; exact h.f9
  · rw [set_other (by omega)]; exact h.c10
  · exact h.r11.setOther (by show N + 11 ≠ N + 9; omega) _

theorem Fix.setStack (h : Fix N n vd s vs vc w) (v : Value) (l : List Nat) : Fix N n vd { s with stack := l } v vc (w.setCell ⟨N + 7, 0, none⟩ v) := by
  refine ⟨by rw [set_size]; exact h.size, ?_, ?_, ?_, ?_, ?_, ?_, ?_, ?_, ?_, ?_, ?_, ?_, ?_, ?_, ?_⟩
  · rw [set_other (by omega)]; exact h.c0
  · exact h.r1.setOther (by show N + 1 ≠ N + 7; omega) _
  · rw [set_other (by omega)]; exact h.c2
  · exact h.r3.setOther (by show N + 3 ≠ N + 7; omega) _
  · rw [set_other (by omega)]; exact h.c4
  · exact h.r5.setOther (by show N + 5 ≠ N + 7; omega) _
  · rw [set_other (by omega)]; exact h.c6
  · exact World.cell?_setCell_same _ _ _ h.c7
  · rw [World.frozen?_setCell]; exact h.f7
  · rw [set_other (by omega)]; exact h.c8
  · rw [World.frozen?_setCell]; exact h.f8
  · rw [set_other (by omega)]; exact h.c9
  · rw [World.frozen?_setCell]; exact h.f9
  · rw [set_other (by omega)]; exact h.c10
  · exact h.r11.setOther (by show N + 11 ≠ N + 7; omega) _

theorem Fix.setComps (h : Fix N n vd s vs vc w) (v : Value) (l : List (List Nat)) : Fix N n vd { s with comps := l } vs v (w.setCell ⟨N + 8, 0, none⟩ v) := by
  refine ⟨by rw [set_size]; exact h.size, ?_, ?_, ?_, ?_, ?_, ?_, ?_, ?_, ?_, ?_, ?_, ?_, ?_, ?_, ?_⟩
  · rw [set_other (by omega)]; exact h.c0
  · exact h.r1.setOther (by show N + 1 ≠ N + 8; omega) _
  · rw [set_other (by omega)]; exact h.c2
  · exact h.r3.setOther (by show N + 3 ≠ N + 8; omega) _
  · rw [set_other (by omega)]; exact h.c4
  · exact h.r5.setOther (by show N + 5 ≠ N + 8; omega) _
  · rw [set_other (by omega)]; exact h.c6
  · rw [set_other (by omega)]; exact h.c7
  · rw [World.frozen?_setCell]; exact h.f7
  · exact World.cell?_setCell_same _ _ _ h.c8
  · rw [World.frozen?_setCell]; exact h.f8
  · rw [set_other (by omega)]; exact h.c9
  · rw [World.frozen?_setCell]; exact h.f9
  · rw [set_other (by omega)]; exact h.c10
  · exact h.r11.setOther (by show N + 11 ≠ N + 8; omega) _
end

/-- Two slices lie in two rows. -/
def Apart (u v : Value) : Prop := ∀ b, u.ownBlock = some b → v.ownBlock ≠ some b

theorem Apart.symm {u v : Value} (h : Apart u v) : Apart v u := fun b hb hu => h b hu hb

theorem Apart.out {u v : Value} (h : Apart u v) : u.ownBlock = none ∨ u.ownBlock ≠ v.ownBlock := by
  cases hu : u.ownBlock with
  | none => exact .inl rfl
  | some b => exact .inr fun e => h b hu e.symm

theorem apart_types {w : World} {base base' e e' size size' : Nat} {u v : Value} {k k' : Nat} {xs ys : List Value} (h : w.ownsRow base e size u k xs) (h' : w.ownsRow base' e' size' v k' ys) (hne : e ≠ e') : Apart u v := by
  intro b hu hv
  rcases h.2 with ⟨rfl, _⟩ | ⟨g, cap, cur, rfl, _, hg, _⟩
  · simp [Value.ownBlock] at hu
  · rcases h'.2 with ⟨rfl, _⟩ | ⟨g', cap', cur', rfl, _, hg', _⟩
    · simp [Value.ownBlock] at hv
    · simp only [Value.ownBlock, Option.some.injEq] at hu hv
      subst hu; subst hv
      rw [hg] at hg'
      simp only [Option.some.injEq, Obj.cells.injEq] at hg'
      exact hne hg'.2.1

/-- The rows from block N + 12 on: the stack, the components, each component. -/
structure Own (N : Nat) (s : St) (vs vc : Value) (cvs : List Value) (w : World) : Prop where
  stk : w.ownsRow (N + 12) 3 1 vs s.stack.length (s.stack.map natV)
  cmp : w.ownsRow (N + 12) 29 1 vc s.comps.length cvs
  each : ∀ (k : Nat) (c : List Nat), s.comps[k]? = some c → ∃ u, cvs[k]? = some u ∧ w.ownsRow (N + 12) 3 1 u c.length (c.map natV) ∧ Apart u vs

/-- What is owned stays owned in a world whose blocks from N + 12 on are as they were. -/
theorem own_keep {w w' : World} {base e size : Nat} {v : Value} {k : Nat} {xs : List Value} (h : w.ownsRow base e size v k xs) (hk : ∀ b, base ≤ b → b < w.heap.size → w'.heap[b]? = w.heap[b]?) : w'.ownsRow base e size v k xs := by
  refine ⟨h.1, ?_⟩
  rcases h.2 with h2 | ⟨g, cap, cur, hv, hb, hg, r⟩
  · exact .inl h2
  · exact .inr ⟨g, cap, cur, hv, hb, by rw [hk g hb (Array.getElem?_eq_some_iff.1 hg).1]; exact hg, r⟩

theorem Own.keep {N : Nat} {s : St} {vs vc : Value} {cvs : List Value} {w w' : World} (h : Own N s vs vc cvs w) (hk : ∀ b, N + 12 ≤ b → b < w.heap.size → w'.heap[b]? = w.heap[b]?) : Own N s vs vc cvs w' := by
  refine ⟨own_keep h.stk hk, own_keep h.cmp hk, fun k c hc => ?_⟩
  obtain ⟨u, h1, h2, h3⟩ := h.each k c hc
  exact ⟨u, h1, own_keep h2 hk, h3⟩

structure Mem (N n : Nat) (vd : Value) (s : St) (vs vc : Value) (cvs : List Value) (w : World) : Prop where
  fix : Fix N n vd s vs vc w
  own : Own N s vs vc cvs w

section
variable {N n : Nat} {vd : Value} {s : St} {vs vc : Value} {cvs : List Value} {w w' : World}

theorem Mem.keep (h : Mem N n vd s vs vc cvs w) (hs : w.heap.size ≤ w'.heap.size) (hk : ∀ k, k < w.heap.size → w'.heap[k]? = w.heap[k]?) : Mem N n vd s vs vc cvs w' :=
  ⟨h.fix.keep hs (fun k hk' => hk k (by have := h.fix.size; omega)), h.own.keep (fun b _ hb => hk b hb)⟩

theorem Mem.alloc (h : Mem N n vd s vs vc cvs w) (o : Obj) : Mem N n vd s vs vc cvs (w.alloc o) :=
  h.keep (by simp) (fun k hk => blk_alloc_lt w o k hk)

theorem Mem.drewN (h : Mem N n vd s vs vc cvs w) (q : Nat) : Mem N n vd s vs vc cvs (w.drewN q) := h.keep (Nat.le_refl _) (fun _ _ => rfl)
theorem Mem.drew (h : Mem N n vd s vs vc cvs w) : Mem N n vd s vs vc cvs w.drew := h.keep (Nat.le_refl _) (fun _ _ => rfl)

theorem low_same {b i : Nat} {v : Value} (hb : b < N + 12) : ∀ k, N + 12 ≤ k → k < w.heap.size → (w.setCell ⟨b, i, none⟩ v).heap[k]? = w.heap[k]? :=
  fun k hk _ => blk_setCell_other _ _ _ _ (by show k ≠ b; omega)

theorem Mem.setOrd (h : Mem N n vd s vs vc cvs w) (i : Nat) (x : Int) : Mem N n vd { s with ord := upd s.ord i x } vs vc cvs (w.setCell ⟨N + 1, i, none⟩ (.int .i64 x)) := by
  have ho := h.own.keep (w' := w.setCell ⟨N + 1, i, none⟩ (.int .i64 x)) (low_same (by omega))
  exact ⟨h.fix.setOrd i x, ⟨ho.stk, ho.cmp, ho.each⟩⟩
theorem Mem.setLow (h : Mem N n vd s vs vc cvs w) (i : Nat) (x : Int) : Mem N n vd { s with low := upd s.low i x } vs vc cvs (w.setCell ⟨N + 3, i, none⟩ (.int .i64 x)) := by
  have ho := h.own.keep (w' := w.setCell ⟨N + 3, i, none⟩ (.int .i64 x)) (low_same (by omega))
  exact ⟨h.fix.setLow i x, ⟨ho.stk, ho.cmp, ho.each⟩⟩
theorem Mem.setOn (h : Mem N n vd s vs vc cvs w) (i : Nat) (x : Bool) : Mem N n vd { s with on := upd s.on i x } vs vc cvs (w.setCell ⟨N + 5, i, none⟩ (.bool x)) := by
  have ho := h.own.keep (w' := w.setCell ⟨N + 5, i, none⟩ (.bool x)) (low_same (by omega))
  exact ⟨h.fix.setOn i x, ⟨ho.stk, ho.cmp, ho.each⟩⟩
theorem Mem.setNext (h : Mem N n vd s vs vc cvs w) (x : Nat) : Mem N n vd { s with next := x } vs vc cvs (w.setCell ⟨N + 9, 0, none⟩ (.int .i64 (x : Int))) := by
  have ho := h.own.keep (w' := w.setCell ⟨N + 9, 0, none⟩ (.int .i64 (x : Int))) (low_same (by omega))
  exact ⟨h.fix.setNext x, ⟨ho.stk, ho.cmp, ho.each⟩⟩

/-- Behind an append to a row of the search's own: the blocks below N + 12 are as they were. -/
theorem Fix.grown {row : Option Nat} (h : Fix N n vd s vs vc w) (hg : w.grownBy w' row) (hr : ∀ k, row = some k → N + 12 ≤ k) : Fix N n vd s vs vc w' :=
  h.keep hg.size (fun k hk => hg.block k (by have := h.size; omega) (fun e => by have := hr k e.symm; omega))

/-- A cell below N + 12, behind an append to a row of the search's own. -/
theorem cell_grown {row : Option Nat} {o : Obj} {b : Nat} {v : Value} (hg : (w.alloc o).grownBy w' row) (hr : ∀ k, row = some k → N + 12 ≤ k ∧ k < w.heap.size) (hb : b < N + 12) (h : w.cell? ⟨b, 0, none⟩ = some v) : w'.cell? ⟨b, 0, none⟩ = some v := by
  refine hg.cell (a := ⟨b, 0, none⟩) ?_ (fun e => by have := hr b e.symm; omega)
  rw [World.cell?_alloc_lt _ _ _ (World.block_lt_of_cell? _ _ h)]
  exact h

theorem frozen_grown {row : Option Nat} {o : Obj} {b : Nat} {v : Value} (hg : (w.alloc o).grownBy w' row) (hr : ∀ k, row = some k → N + 12 ≤ k ∧ k < w.heap.size) (hb : b < N + 12) (h : w.cell? ⟨b, 0, none⟩ = some v) (hf : w.frozen? ⟨b, 0, none⟩ = false) : w'.frozen? ⟨b, 0, none⟩ = false := by
  have hlt : b < w.heap.size := World.block_lt_of_cell? _ _ h
  rw [World.frozen?_of_block (w := w.alloc o) (hg.block b (by simp; omega) (fun e => by have := hr b e.symm; omega)), World.frozen?_of_block (w := w) (blk_alloc_lt w o b hlt)]
  exact hf

/-- 'stack = append(stack, i)': the element in a block of its own, the append, the store. -/
theorem Mem.push (h : Mem N n vd s vs vc cvs w) (i : Nat) (o : Obj) {v' : Value} {w1 : World} (hown : w1.ownsRow (N + 12) 3 1 v' (s.stack.length + 1) (s.stack.map natV ++ [natV i])) (hg : (w.alloc o).grownBy w1 vs.ownBlock)
    (hat : v'.ownBlock = vs.ownBlock ∨ v'.ownBlock = some (w.alloc o).heap.size) : Mem N n vd { s with stack := s.stack ++ [i] } v' vc cvs (w1.setCell ⟨N + 7, 0, none⟩ v') := by
  have ha := h.alloc o
  have hlt := ha.own.stk.lt
  have hf := (ha.fix.grown hg (fun k hk => (hlt k hk).1)).setStack v' (s.stack ++ [i])
  refine ⟨hf, ?_⟩
  have hpart : ∀ u, Apart u vs → (∀ k, u.ownBlock = some k → k < (w.alloc o).heap.size) → Apart u v' := by
    intro u hu hk b hb hb'
    rcases hat with e | e
    · exact hu b hb (by rw [← e]; exact hb')
    · rw [e] at hb'
      have := hk b hb
      simp only [Option.some.injEq] at hb'
      omega
  refine ⟨own_keep ?_ (low_same (by omega)), own_keep (ha.own.cmp.kept hg ((apart_types ha.own.cmp ha.own.stk (by decide)).out)) (low_same (by omega)), fun k c hc => ?_⟩
  · show w1.ownsRow (N + 12) 3 1 v' (s.stack ++ [i]).length ((s.stack ++ [i]).map natV)
    simpa using hown
  · obtain ⟨u, h1, h2, h3⟩ := ha.own.each k c hc
    exact ⟨u, h1, own_keep (h2.kept hg h3.out) (low_same (by omega)), hpart u h3 (fun k hk => (h2.lt k hk).2)⟩

theorem own_slice {base e size k : Nat} {v : Value} {xs : List Value} (h : w.ownsRow base e size v (k + 1) xs) : ∃ g cap, v = .slice (some ⟨g, 0, none⟩) (k + 1) cap := by
  rcases h.2 with ⟨_, h0⟩ | ⟨g, cap, cur, hv, _⟩
  · omega
  · exact ⟨g, cap, hv⟩

/-- 'stack = stack[:len(stack)-1]'. -/
theorem Mem.pop {g cap : Nat} {A : List Nat} {j : Nat} (h : Mem N n vd s (.slice (some ⟨g, 0, none⟩) (A.length + 1) cap) vc cvs w) (hs : s.stack = A ++ [j]) :
    Mem N n vd { s with stack := A } (.slice (some ⟨g, 0, none⟩) A.length cap) vc cvs (w.setCell ⟨N + 7, 0, none⟩ (.slice (some ⟨g, 0, none⟩) A.length cap)) := by
  have hk : ∀ b, N + 12 ≤ b → b < w.heap.size → (w.setCell ⟨N + 7, 0, none⟩ (.slice (some ⟨g, 0, none⟩) A.length cap)).heap[b]? = w.heap[b]? := low_same (by omega)
  refine ⟨h.fix.setStack _ A, own_keep ?_ hk, own_keep h.own.cmp hk, fun k c hc => ?_⟩
  · have h1 := h.own.stk
    rw [hs] at h1
    exact ownsRow_pop (last := [natV j]) (by simp) (by simpa using h1)
  · obtain ⟨u, h1, h2, h3⟩ := h.own.each k c hc
    exact ⟨u, h1, own_keep h2 hk, h3⟩

/-- The component that is being gathered. -/
structure Comp (N : Nat) (c : List Nat) (u vs : Value) (cvs : List Value) (w : World) : Prop where
  own : w.ownsRow (N + 12) 3 1 u c.length (c.map natV)
  stk : Apart u vs
  each : ∀ (k : Nat) (u' : Value), cvs[k]? = some u' → Apart u u'

theorem comp_nil (N : Nat) (vs : Value) (cvs : List Value) (w : World) : Comp N [] (.slice none 0 0) vs cvs w :=
  ⟨World.ownsRow_nil _ _ _ _, fun b hb => by simp [Value.ownBlock] at hb, fun _ _ _ b hb => by simp [Value.ownBlock] at hb⟩

theorem Comp.keep {c : List Nat} {u : Value} (h : Comp N c u vs cvs w) (hk : ∀ b, N + 12 ≤ b → b < w.heap.size → w'.heap[b]? = w.heap[b]?) : Comp N c u vs cvs w' :=
  ⟨own_keep h.own hk, h.stk, h.each⟩

/-- 'component = append(component, j)'. -/
theorem Mem.gather (h : Mem N n vd s vs vc cvs w) {c : List Nat} {u : Value} (hc : Comp N c u vs cvs w) (j : Nat) (o : Obj) {u' : Value} {w1 : World}
    (hown : w1.ownsRow (N + 12) 3 1 u' (c.length + 1) (c.map natV ++ [natV j])) (hg : (w.alloc o).grownBy w1 u.ownBlock) (hat : u'.ownBlock = u.ownBlock ∨ u'.ownBlock = some (w.alloc o).heap.size)
    (hlen : cvs.length = s.comps.length) : Mem N n vd s vs vc cvs w1 ∧ Comp N (c ++ [j]) u' vs cvs w1 := by
  have ha := h.alloc o
  have hca : Comp N c u vs cvs (w.alloc o) := hc.keep (fun b _ hb => blk_alloc_lt w o b hb)
  have hlt := hca.own.lt
  have hpart : ∀ v, Apart u v → (∀ k, v.ownBlock = some k → k < (w.alloc o).heap.size) → Apart u' v := by
    intro v hv hk b hb hb'
    rcases hat with e | e
    · exact hv b (by rw [← e]; exact hb) hb'
    · rw [e] at hb
      have := hk b hb'
      simp only [Option.some.injEq] at hb
      omega
  refine ⟨⟨ha.fix.grown hg (fun k hk => (hlt k hk).1), ha.own.stk.kept hg hc.stk.symm.out, ha.own.cmp.kept hg (apart_types ha.own.cmp hca.own (by decide)).out, fun k c' hc' => ?_⟩, ?_, ?_, fun k v hv => ?_⟩
  · obtain ⟨v, h1, h2, h3⟩ := ha.own.each k c' hc'
    exact ⟨v, h1, h2.kept hg (hc.each k v h1).symm.out, h3⟩
  · simpa using hown
  · exact hpart vs hc.stk (fun k hk => (ha.own.stk.lt k hk).2)
  · have hk : k < s.comps.length := by rw [← hlen]; exact (List.getElem?_eq_some_iff.1 hv).1
    obtain ⟨v', h1, h2, h3⟩ := ha.own.each k s.comps[k] (by simp [hk])
    rw [hv] at h1
    obtain rfl := Option.some.inj h1
    exact hpart v (hc.each k v hv) (fun k hk => (h2.lt k hk).2)

theorem Own.len (h : Own N s vs vc cvs w) : cvs.length = s.comps.length := by have := h.cmp.1; omega

/-- 'components = append(components, component)'. -/
theorem Mem.add (h : Mem N n vd s vs vc cvs w) {c : List Nat} {u : Value} (hc : Comp N c u vs cvs w) (o : Obj) {v' : Value} {w1 : World}
    (hown : w1.ownsRow (N + 12) 29 1 v' (s.comps.length + 1) (cvs ++ [u])) (hg : (w.alloc o).grownBy w1 vc.ownBlock) :
    Mem N n vd { s with comps := s.comps ++ [c] } vs v' (cvs ++ [u]) (w1.setCell ⟨N + 8, 0, none⟩ v') := by
  have ha := h.alloc o
  have hca : Comp N c u vs cvs (w.alloc o) := hc.keep (fun b _ hb => blk_alloc_lt w o b hb)
  have hlt := ha.own.cmp.lt
  have hl := h.own.len
  have hk : ∀ b, N + 12 ≤ b → b < w1.heap.size → (w1.setCell ⟨N + 8, 0, none⟩ v').heap[b]? = w1.heap[b]? := low_same (by omega)
  refine ⟨(ha.fix.grown hg (fun k hk => (hlt k hk).1)).setComps v' _, own_keep (ha.own.stk.kept hg (apart_types ha.own.stk ha.own.cmp (by decide)).out) hk, own_keep (by simpa using hown) hk, fun k c' hc' => ?_⟩
  by_cases hkl : k < s.comps.length
  · have hc'' : s.comps[k]? = some c' := by
      have : (s.comps ++ [c])[k]? = some c' := hc'
      rwa [List.getElem?_append, if_pos hkl] at this
    obtain ⟨v, h1, h2, h3⟩ := ha.own.each k c' hc''
    refine ⟨v, ?_, own_keep (h2.kept hg (apart_types h2 ha.own.cmp (by decide)).out) hk, h3⟩
    rw [List.getElem?_append, if_pos (by omega)]; exact h1
  · have hc'' : (s.comps ++ [c])[k]? = some c' := hc'
    rw [List.getElem?_append, if_neg hkl] at hc''
    have hkk := (List.getElem?_eq_some_iff.1 hc'').1
    simp at hkk
    have he : k = s.comps.length := by omega
    subst he
    simp at hc''
    subst hc''
    refine ⟨u, ?_, own_keep (hca.own.kept hg (apart_types hca.own ha.own.cmp (by decide)).out) hk, hc.stk⟩
    rw [List.getElem?_append, if_neg (by omega), hl]; simp

end

end Go.Proofs.Qxb6627646a
