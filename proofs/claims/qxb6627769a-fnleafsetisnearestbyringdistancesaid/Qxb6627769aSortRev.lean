/-
  The library's reversal of a range.
-/
import Derived.Test.Qxb6627769aSortIns
namespace Go.Proofs.Qxb6627769a
open Go.RowKit Go.Sort
set_option linter.unusedVariables false

section
variable {α : Type} [Inhabited α]
theorem rev_go {i j : Nat} {d : Array α} (h : i < j) : reverseLoop i j d = reverseLoop (i + 1) (j - 1) (swp d i j) := by rw [reverseLoop, if_pos h]
theorem rev_end {i j : Nat} {d : Array α} (h : ¬ i < j) : reverseLoop i j d = d := by rw [reverseLoop, if_neg h]
end

set_option maxHeartbeats 4000000 in
theorem reverse (w0 : World) (g off N cap a b : Nat) (d : Array Int) (w : World) (hA : Arr w0 g off N d w) (hab : a < b) (hb : b ≤ N) (hN : N < 4611686018427387904) :
    Calls Try.prog 21 #[.slice (some ⟨g, off, none⟩) N cap, .int .i64 a, .int .i64 b] w fun e w' => e = .returned (.tuple #[]) ∧ Hid (Arr w0 g off N (reverseRange d a b) w') := by
  have HA : Hid (Arr w0 g off N d w) := hA
  clear hA
  have hst := storeE
  go_enter Try.func21, Try.ntmps21
  go_wp2
  go_loopg [6, 7] (b + 1) (fun k vi vj wr => ∃ (i j : Nat) (dk : Array Int), vi = .int .i64 i ∧ vj = .int .i64 j ∧ j < b ∧ j ≤ k ∧ Hid (Arr w0 g off N dk wr) ∧ Hid (reverseLoop i j dk = reverseLoop a (b - 1) d))
  case atStart => exact ⟨a, b - 1, d, rfl, by go_num, by omega, by omega, HA, rfl⟩
  case round =>
    clear HA
    obtain ⟨i, j, dk, rfl, rfl, hj, hk, HA, HO⟩ := hrel
    by_cases hlt : i < j
    · obtain ⟨G, hG⟩ : ∃ G : Nat → Int, ∀ t, G t = dk[t]! := ⟨fun t => dk[t]!, fun _ => rfl⟩
      have hcw : ∀ t, t < N → wr.cell? ⟨g, off + t, none⟩ = some (.int .u64 (G t)) := fun t ht => by rw [hG]; exact HA.out.cell t ht
      have hfw : ∀ t, t < N → wr.frozen? ⟨g, off + t, none⟩ = false := fun t ht => HA.out.frozen t ht
      have HG : Hid (∀ t, G t = dk[t]!) := hG
      clear hG
      go_wp2
      go_region
      all_goals go_wp2
      go_roundg (j - 1)
      case measure => omega
      case rel =>
        refine ⟨i + 1, j - 1, swp dk i j, by go_num, by first | go_num | (congr 1; omega), by omega, Nat.le_refl _, ?_, ?_⟩
        · rw [HG.out, HG.out]
          exact (HA.out.swap i j (by omega) (by omega)).drew
        · show _ = _
          rw [← HO.out, rev_go hlt]
    · go_wp2
      go_end0
      exact ⟨rfl, show Arr _ _ _ _ _ _ by unfold reverseRange; rw [← HO.out, rev_end hlt]; exact HA.out⟩
end Go.Proofs.Qxb6627769a
