/-
  The arguments, opened: a slice of numbers.
-/
import Derived.Test.Qxb6627769aSmall
import Derived.ProofKit
import Derived.OpenShut
import Derived.ShutString
import Derived.ChangeOld
import Derived.Below
namespace Go.Proofs.Qxb6627769a
open Go.ChangeShapes Go.WideShapes Go.ChangeAt Go.RowKit
set_option linter.unusedVariables false

theorem own : ownKnob Try.prog.godebug = none := by kernel_rfl
theorem laidOut : laidOutB Try.prog = true := by kernel_rfl

/-- What the walk is told of a slice of integers that came in: it is nil; or it leads to a row of 'cap' cells, the numbers 'zs', each fitting its kind. -/
def IsRow (k : IntKind) (w : World) (a : Option Addr) (len cap : Nat) (zs : List Int) : Prop :=
  (a = none ∧ len = 0 ∧ cap = 0 ∧ zs = []) ∨
  ∃ x, a = some x ∧ len ≤ cap ∧ cap ≤ maxLen ∧ zs.length = cap ∧ (∀ i, i < zs.length → w.cell? (x.add i) = some (.int k (zs.getD i 0))) ∧ ∀ n ∈ zs, (Lit.int k n).wf = true

theorem u64_wf {n : Int} (h : (Lit.int .u64 n).wf = true) : 0 ≤ n ∧ n < 18446744073709551616 := by
  simp only [Lit.wf, Bool.and_eq_true, decide_eq_true_eq] at h
  have h1 : IntKind.u64.min = 0 := by rfl
  have h2 : IntKind.u64.max = 18446744073709551615 := by rfl
  rw [h1, h2] at h
  omega

theorem row_of {w : World} {a : Option Addr} {len cap : Nat} {zs : List Int} (h : IsRow .u64 w a len cap zs) : Row w a len (fun j => zs.getD j 0) ∧ ∀ j, j < len → 0 ≤ zs.getD j 0 ∧ zs.getD j 0 < 18446744073709551616 := by
  rcases h with ⟨_, h, _⟩ | ⟨x, rfl, hl, _, hz, hc, hw⟩
  · exact ⟨Or.inl h, fun j hj => by omega⟩
  · refine ⟨?_, fun j hj => ?_⟩
    · rcases Nat.eq_zero_or_pos len with h0 | h0
      · exact Or.inl h0
      · right
        have hx0 := hc 0 (by omega)
        have hs : x.spot = none := by simpa [Addr.add] using World.cell?_spot hx0
        obtain ⟨b, off, spot⟩ := x
        subst hs
        have hc2 : ∀ j, j < len → w.cell? ⟨b, off + j, none⟩ = some (.int .u64 (zs.getD j 0)) := fun j hj => by
          have hx := hc j (by omega)
          rw [Addr.add_lit] at hx
          exact hx
        exact ⟨b, off, rfl, World.block_lt_of_cell? _ _ (hc2 0 h0), hc2⟩
    · have hm : zs[j]'(by omega) ∈ zs := List.getElem_mem _
      have := u64_wf (hw _ hm)
      have e : zs.getD j 0 = zs[j]'(by omega) := by simp [show j < zs.length by omega]
      rw [e]
      exact this
end Go.Proofs.Qxb6627769a
