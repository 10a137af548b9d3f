/-
  The argument, opened: a slice of numbers with a point.
-/
import Derived.Test.Qxb6627713aLaw5b
import Derived.ProofKit
import Derived.OpenShut
import Derived.ChangeOld
import Derived.Deep.Slices
namespace Go.Proofs.Qxb6627713a
open Go.ChangeShapes Go.WideShapes Go.ChangeAt Go.RowKit Go.Deep
set_option linter.unusedVariables false

theorem own : ownKnob Try.prog.godebug = none := by kernel_rfl
theorem laidOut : laidOutB Try.prog = true := by kernel_rfl
theorem cells24 : Try.prog.cellsOf 24 = 1 := by kernel_rfl

/-- What the walk is told of the slice that came in. -/
def IsRow (w : World) (a : Option Addr) (len cap : Nat) : Prop :=
  len = 0 ∨ ∃ (b off : Nat) (f : Nat → Nat), a = some ⟨b, off, none⟩ ∧ b < w.heap.size ∧ len ≤ cap ∧ ∀ j, j < len → w.cell? ⟨b, off + j, none⟩ = some (.float .f64 (f j))

section
variable {H : Type} {enc : TypeId × Value → H} {W : World}

theorem trod_float {base fuel : Nat} {sp : Nat → Bool} {hd : Bool} {cs : List Value} {x : DataW H × List MemPlace} (h : DataW.trod enc Try.prog W base sp hd fuel 24 cs = some x) : ∃ b, cs = [.float .f64 b] := by
  cases fuel with
  | zero => simp [DataW.trod] at h
  | succ n =>
    unfold DataW.trod at h
    rw [Try.underlying24] at h
    split at h <;> simp_all

theorem open_row {v : Value} {d : DataW H} {p : List MemPlace} (ao : Option Addr) (len cap : Nat) (hv : v = .slice ao len cap) (h : DataW.Trod enc Try.prog W 0 (fun _ => true) true 22 v d p) : IsRow W ao len cap := by
  subst hv
  obtain ⟨fuel, hf⟩ := h
  rcases open_slice Try.underlying22 hf with ⟨hcs, _⟩ | ⟨a, l, c, m, n, D, Pl, hcs, _, hl, hm, hmd, _, hel⟩
  · simp [Value.cells] at hcs
    exact Or.inl hcs.2.1
  · simp [Value.cells] at hcs
    obtain ⟨rfl, rfl, rfl⟩ := hcs
    simp only [if_true] at hmd
    rcases Nat.eq_zero_or_pos len with h0 | h0
    · exact Or.inl h0
    · right
      have hc : ∀ j, j < len → ∃ x, W.cell? (a.add j) = some (.float .f64 x) := fun j hj => by
        obtain ⟨cs', h1, h2⟩ := hel j (by omega)
        obtain ⟨x, rfl⟩ := trod_float h2
        rw [cells24, Nat.mul_one] at h1
        exact ⟨x, cell_of_cells?_one h1⟩
      obtain ⟨x0, hx0⟩ := hc 0 h0
      have hs : a.spot = none := by simpa [Addr.add] using World.cell?_spot hx0
      obtain ⟨b, off, spot⟩ := a
      subst hs
      have hc2 : ∀ j, j < len → ∃ x, W.cell? ⟨b, off + j, none⟩ = some (.float .f64 x) := fun j hj => by
        obtain ⟨x, hx⟩ := hc j hj
        rw [Addr.add_lit] at hx
        exact ⟨x, hx⟩
      refine ⟨b, off, fun j => if hj : j < len then Classical.choose (hc2 j hj) else 0, rfl, ?_, hl, fun j hj => ?_⟩
      · obtain ⟨x, hx⟩ := hc2 0 h0
        exact World.block_lt_of_cell? _ _ hx
      · have e : (if hj : j < len then Classical.choose (hc2 j hj) else 0) = Classical.choose (hc2 j hj) := dif_pos hj
        show W.cell? ⟨b, off + j, none⟩ = some (.float .f64 (if hj : j < len then Classical.choose (hc2 j hj) else 0))
        rw [e]
        exact Classical.choose_spec (hc2 j hj)
end

theorem law5_all (a : Option Addr) (n cap : Nat) (w : World) (h : IsRow w a n cap) : Calls Try.prog 3 #[.slice a n cap] w fun e w' => e = .returned (.bool true) ∧ Below w.heap.size w w' := by
  by_cases hn : n = 0 ∨ 4096 < n
  · exact (law5_out a n cap w hn).mono fun e w' ⟨h1, h2⟩ => ⟨h1, by rw [h2]; exact Below.refl _ _⟩
  · rcases h with h | ⟨b, off, f, rfl, hb, hl, hc⟩
    · exact absurd (Or.inl h) hn
    · exact (law5 b off n cap f w (by omega) (by omega) hc hb).mono fun e w' ⟨h1, h2⟩ => ⟨h1, h2.out⟩
end Go.Proofs.Qxb6627713a
