/-
  slices.Sort.
-/
import Derived.Test.Qxb6627769aSortPdq
namespace Go.Proofs.Qxb6627769a
open Go.RowKit Go.Sort
set_option linter.unusedVariables false

set_option maxHeartbeats 2000000 in
theorem sorts (hO : SWO ult) (g off cap : Nat) (d : Array Int) (w : World) (hH : Holds (Value.int .u64) w g off d) (hg : g < w.heap.size) (hN : d.size < 4611686018427387904) :
    Calls Try.prog 11 #[.slice (some ⟨g, off, none⟩) d.size cap] w fun e w' => e = .returned (.tuple #[]) ∧ Hid (Srtd w g off d.size 0 d.size d w') := by
  have hbl : bitsLen d.size ≤ 62 := (bitsLen_le_iff d.size 62).2 (by omega)
  have hc := pdqs hO w g off d.size cap hN (d.size + 1) 0 d.size (bitsLen d.size) d w (by omega) (Arr.start hH hg) (Nat.zero_le _) (Nat.le_refl _) (by omega) (Or.inl rfl)
  have hb := lenBits d.size hN w
  generalize bitsLen d.size = bl at hc hb hbl
  have HS : Hid (∃ n, n = d.size) := ⟨_, rfl⟩
  clear hH hg
  generalize hn : d.size = N at hc hb hN
  clear hn
  go_enter Try.func11, Try.ntmps11
  go_wp2_with (first | (go_at_call 15; refine hb.mono ?_; rintro e w' ⟨rfl, rfl⟩) | (go_at_call 14; refine hc.mono ?_; rintro e w1 ⟨rfl, HS1⟩))
  go_end0
  exact ⟨rfl, HS1⟩
end Go.Proofs.Qxb6627769a
