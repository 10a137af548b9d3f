/-
  THE ARGUMENTS, OPENED: a map (its length), a slice of slices of ints, a slice of ints.
-/
import Derived.Test.Qxb6627646aReads
import Derived.ProofKit
import Derived.OpenShut
import Derived.ChangeOld
import Derived.Deep.Matrix
namespace Go.Proofs.Qxb6627646a
open Go.ChangeShapes Go.WideShapes Go.ChangeAt Go.RowKit Go.Deep
set_option linter.unusedVariables false

theorem Try.own : ownKnob Try.prog.godebug = none := by kernel_rfl
theorem Try.laidOut : laidOutB Try.prog = true := by kernel_rfl
theorem Try.cells29 : Try.prog.cellsOf 29 = 1 := by kernel_rfl
theorem Try.cells3 : Try.prog.cellsOf 3 = 1 := by kernel_rfl

theorem row_of {W : World} {ao : Option Addr} {len cap : Nat} {zs : List Int} (hl : len ≤ cap) (hz : zs.length = cap) (hc : ∀ c, c < len → ∃ a, ao = some a ∧ W.cell? (a.add c) = some (.int .i64 (zs.getD c 0))) :
    IntRow W W.heap.size (.slice ao len cap) (zs.take len) := by
  have hlen : (zs.take len).length = len := by simp; omega
  refine ⟨ao, cap, by rw [hlen], fun k hk => ?_⟩
  rw [hlen] at hk
  obtain ⟨a, ha, hcell⟩ := hc k hk
  have hs : (a.add k).spot = none := World.cell?_spot hcell
  obtain ⟨a0, ha0, hcell0⟩ := hc 0 (by omega)
  have e0 : a0 = a := by rw [ha] at ha0; exact (Option.some.inj ha0).symm
  subst e0
  have hs0 : a0.spot = none := by simpa [Addr.add] using World.cell?_spot hcell0
  obtain ⟨b, off, spot⟩ := a0
  subst hs0
  rw [Addr.add_lit] at hcell
  refine ⟨b, off, ha, World.block_lt_of_cell? _ _ hcell, ?_⟩
  rw [hcell]
  have : k < zs.length := by omega
  simp [List.getD, hk]

section
variable {H : Type} {enc : TypeId × Value → H} {W : World}

theorem open_row {v : Value} {d : DataW H} {p : List MemPlace} (ao : Option Addr) (len cap : Nat) (hv : v = .slice ao len cap) (h : DataW.Trod enc Try.prog W 0 (fun _ => true) true 29 v d p) : ∃ zs, IntRow W W.heap.size v zs ∧ zs.length ≤ maxLen := by
  subst hv
  obtain ⟨fuel, hf⟩ := h
  rcases open_ints Try.underlying29 Try.underlying3 Try.cells3 hf with ⟨hcs, _⟩ | ⟨x, l, c, zs, hcs, _, hl, hm, hz, _, hcell, hwz⟩
  · simp [Value.cells] at hcs
    obtain ⟨rfl, rfl, rfl⟩ := hcs
    exact ⟨[], ⟨none, 0, rfl, fun k hk => by simp at hk⟩, by simp⟩
  · simp [Value.cells] at hcs
    obtain ⟨rfl, rfl, rfl⟩ := hcs
    simp only [if_true] at hz
    refine ⟨zs.take len, row_of hl hz (fun c hc => ⟨x, rfl, hcell c (by omega)⟩), ?_⟩
    simp; omega

theorem open_rows {v : Value} {d : DataW H} {p : List MemPlace} (ao : Option Addr) (len cap : Nat) (hv : v = .slice ao len cap) (h : DataW.Trod enc Try.prog W 0 (fun _ => true) true 23 v d p) :
    ∃ xs, IntRows W W.heap.size v xs ∧ xs.length ≤ maxLen ∧ ∀ k, (xs.getD k []).length ≤ maxLen := by
  subst hv
  obtain ⟨fuel, hf⟩ := h
  rcases open_int_rows Try.underlying23 Try.underlying29 Try.underlying3 Try.cells29 Try.cells3 hf with ⟨hcs, _⟩ | ⟨a, l, c, A, L, C, Z, hcs, _, hl, hm, _, hr⟩
  · simp [Value.cells] at hcs
    obtain ⟨rfl, rfl, rfl⟩ := hcs
    exact ⟨[], ⟨none, 0, rfl, fun k hk => by simp at hk⟩, by simp, by simp⟩
  · simp [Value.cells] at hcs
    obtain ⟨rfl, rfl, rfl⟩ := hcs
    have hlen : ((List.range len).map fun r => (Z r).take (L r)).length = len := by simp
    have hget : ∀ k, k < len → ((List.range len).map fun r => (Z r).take (L r)).getD k [] = (Z k).take (L k) := fun k hk => by simp [List.getD, hk]
    refine ⟨(List.range len).map fun r => (Z r).take (L r), ⟨some a, cap, by rw [hlen], fun k hk => ?_⟩, by rw [hlen]; omega, fun k => ?_⟩
    · rw [hlen] at hk
      obtain ⟨hcell, h1, h2, h3, h4, h5, h6⟩ := hr k (by omega)
      obtain ⟨hcell0, _⟩ := hr 0 (by omega)
      have hs0 : a.spot = none := by simpa [Addr.add] using World.cell?_spot hcell0
      obtain ⟨b, off, spot⟩ := a
      subst hs0
      rw [Addr.add_lit] at hcell
      refine ⟨b, off, _, rfl, World.block_lt_of_cell? _ _ hcell, hcell, ?_⟩
      rw [hget k hk]
      refine row_of h1 h3 (fun c hc => ?_)
      cases hA : A k with
      | none => have := h5 hA; omega
      | some a' => exact ⟨a', rfl, (h6 a' hA).2 c (by omega)⟩
    · by_cases hk : k < len
      · rw [hget k hk]
        obtain ⟨_, h1, h2, h3, _⟩ := hr k (by omega)
        simp; omega
      · rw [List.getD, List.getElem?_eq_none (by rw [hlen]; omega)]
        simp

theorem open_len {v : Value} {d : DataW H} {p : List MemPlace} (a : Option Nat) (hv : v = .map a) (h : DataW.Trod enc Try.prog W 0 (fun _ => true) true 22 v d p) : ∃ m : Nat, ∀ ty, (Builtin.len_ #[22] ty #[v]).run Try.prog W = .ok (.int .i64 m) W := by
  subst hv
  obtain ⟨fuel, hf⟩ := h
  rcases WideElems.open_map Try.underlying22 hf with ⟨hcs, _⟩ | ⟨b, es, clock, n, _, hcs, hb, _⟩
  · simp [Value.cells] at hcs
    subst hcs
    exact ⟨0, fun ty => run_len_nilMap _ _ _ Try.underlying22⟩
  · simp [Value.cells] at hcs
    subst hcs
    exact ⟨es.size, fun ty => run_len_map _ _ _ _ es clock Try.underlying22 hb⟩
end

end Go.Proofs.Qxb6627646a
