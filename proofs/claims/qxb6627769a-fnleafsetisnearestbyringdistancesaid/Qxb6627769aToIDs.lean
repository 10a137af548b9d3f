/-
  zzLeafsetToIDs.
-/
import Derived.Test.Qxb6627769aSmall
import Derived.Deep.OwnRows
namespace Go.Proofs.Qxb6627769a
open Go.RowKit Go.Deep
set_option linter.unusedVariables false

theorem info28 : (Try.prog.info? 28).map (fun i => (i.zero, i.size, i.bytes)) = some (some (.int .u64 0), 1, 8) := by kernel_rfl
theorem info22 : (Try.prog.info? 22).map (fun i => (i.zero, i.size, i.bytes)) = some (some (.int .u64 0), 1, 8) := by kernel_rfl

def partV (f : Nat → Int) (k : Nat) : Nat → Value := fun j => .int .u64 (if j < k then f j else 0)

def IdsEnd (f : Nat → Int) (n : Nat) (w : World) (e : Ending) (w' : World) : Prop :=
  e = .returned (.slice (some ⟨w.heap.size, 0, none⟩) n n) ∧ w.heap.size < w'.heap.size ∧ Below w.heap.size w w' ∧ ∀ j, j < n → w'.cell? ⟨w.heap.size, 0 + j, none⟩ = some (.int .u64 (f j))

set_option maxHeartbeats 2000000 in
theorem toIDs (ao : Option Addr) (n cap : Nat) (f : Nat → Int) (w : World) (hn : n ≤ 65536) (hr : Row w ao n f) : Calls Try.prog 8 #[.slice ao n cap] w fun e w' => IdsEnd f n w e w' := by
  have HR : Hid (Row w ao n f) := hr
  have hmk := run_make_row' (P := Try.prog) 26 28 (.int .u64 0) 8 Try.underlying26 info28 rfl .i64 .i64 n (by omega) (by omega)
  clear hr
  go_enter Try.func8, Try.ntmps8
  go_wp2
  clear hmk
  go_loopg [4] (n + 1) (fun g v4 wr => ∃ k : Nat, v4 = .int .i64 (k : Int) ∧ k ≤ n ∧ n - k ≤ g ∧ Hid (wr.rowIs w.heap.size 28 n (partV f k)) ∧ Hid (Below w.heap.size w wr) ∧ Hid (w.heap.size < wr.heap.size))
  case atStart => exact ⟨0, by go_num, by omega, by omega, (World.rowIs_made w _ n 28).congr (fun j _ => by simp [partV]), (Below.refl _ _).alloc (Nat.le_refl _) _, by show _ < _; simp⟩
  case round =>
    obtain ⟨k, rfl, hk, hg, HROW, HB, HS⟩ := hrel
    by_cases hlt : k < n
    · obtain ⟨b, off, rfl, hb, hc⟩ := HR.out.op (by omega)
      have hc0 : wr.cell? ⟨b, off + k, none⟩ = some (.int .u64 (f k)) := (HB.out.cell (p := ⟨b, off + k, none⟩) hb).trans (hc k hlt)
      have cp := HROW.out.cell hlt
      have fp := HROW.out.frozen k
      have hkz : (k : Int) < (n : Int) := by omega
      clear hc
      go_wp2
      go_roundg (n - (k + 1))
      case measure => omega
      case rel => exact ⟨k + 1, by go_num, by omega, by omega, (HROW.out.set k _).congr (fun x _ => by
          unfold partV
          by_cases e : x = k
          · rw [if_pos e, if_pos (by omega), e]
          · rw [if_neg e]
            by_cases h : x < k
            · rw [if_pos h, if_pos (by omega)]
            · rw [if_neg h, if_neg (by omega)]), HB.out.setCell (Nat.le_refl _) _, by show _ < _; simpa using HS.out⟩
    · obtain rfl : k = n := by omega
      go_wp2
      go_ret
      exact ⟨rfl, HS.out, HB.out, fun j hj => by
        have := HROW.out.cell hj
        rw [Nat.zero_add, this]
        unfold partV
        rw [if_pos hj]⟩
end Go.Proofs.Qxb6627769a
