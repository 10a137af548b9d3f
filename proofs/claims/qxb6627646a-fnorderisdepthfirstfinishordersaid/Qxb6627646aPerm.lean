import Derived.Test.Qxb6627646aReads
import Derived.Deep.OwnRows
import Derived.Deep.LoopGhost
namespace Go.Proofs.Qxb6627646a
open Go.RowKit
set_option linter.unusedVariables false

theorem Try.info4 : (Try.prog.info? 4).map (fun i => (i.zero, i.size, i.bytes)) = some (some (.bool false), 1, 1) := by kernel_rfl
theorem Try.info3 : (Try.prog.info? 3).map (fun i => (i.zero, i.size, i.bytes)) = some (some (.int .i64 0), 1, 8) := by kernel_rfl
theorem Try.info29 : (Try.prog.info? 29).map (fun i => (i.zero, i.size, i.bytes)) = some (some (.slice none 0 0), 1, 24) := by kernel_rfl

/-- xs holds each of 0 .. n - 1 exactly once. -/
def PermOK (xs : List Int) (n : Nat) : Prop := xs.length = n ∧ xs.Nodup ∧ ∀ x ∈ xs, 0 ≤ x ∧ x < n

/-- The marks when the first k numbers have been seen. -/
def marks (xs : List Int) (k : Nat) : Nat → Value := fun j => .bool (decide ((j : Int) ∈ xs.take k))

theorem marks_succ (xs : List Int) (k : Nat) (hk : k < xs.length) (q : Nat) (hq : (q : Int) = xs.getD k 0) (j : Nat) : (if j = q then Value.bool true else marks xs k j) = marks xs (k + 1) j := by
  have e : xs.getD k 0 = xs[k] := by simp [hk]
  rw [e] at hq
  unfold marks
  rw [List.take_succ_eq_append_getElem hk]
  by_cases h : j = q
  · subst h; simp only [List.mem_append, List.mem_singleton, hq, or_true, decide_true, if_true]
  · have h' : (j : Int) ≠ xs[k] := by rw [← hq]; omega
    simp only [List.mem_append, List.mem_singleton, h', or_false, h, if_false]

theorem marks_fresh (xs : List Int) (k : Nat) (hk : k < xs.length) (hn : xs.Nodup) (q : Nat) (hq : (q : Int) = xs.getD k 0) : marks xs k q = .bool false := by
  have e : xs.getD k 0 = xs[k] := by simp [hk]
  rw [e] at hq
  unfold marks
  have : ¬ ((q : Int) ∈ xs.take k) := by
    rw [hq]
    intro hm
    obtain ⟨i, hi, he⟩ := List.mem_take_iff_getElem.1 hm
    have := (List.getElem_inj hn).1 he
    omega
  simp [this]

set_option maxHeartbeats 400000 in
theorem permutation_any (v : Value) (xs : List Int) (n : Nat) (w : World) (hv : IntRow w w.heap.size v xs) (hn : n ≤ 65536) (hp : PermOK xs n) :
    Calls Try.prog 13 #[v, .int .i64 n] w fun e w' => e = .returned (.bool true) ∧ Below w.heap.size w w' := by
  obtain ⟨ao, cap, rfl, hc⟩ := hv
  obtain ⟨hl, hnd, hr⟩ := hp
  rw [hl] at hc ⊢
  have HL : Hid (xs.length = n) := hl
  clear hl
  have hmk := run_make_row' (P := Try.prog) 37 4 (.bool false) 1 Try.underlying37 Try.info4 rfl .i64 .i64 n (by omega) (by omega)
  go_enter Try.func13, Try.ntmps13
  go_wp2
  clear hmk
  go_loopw [6] (fun i wr => ∃ k : Nat, k ≤ n ∧ i = .int .i64 k ∧ wr.rowIs w.heap.size 4 n (marks xs k) ∧ Below w.heap.size w wr) (fun i _ => n - (intOf i).toNat)
  case atStart => exact ⟨0, Nat.zero_le _, rfl, (World.rowIs_made w _ n 4).congr (fun j _ => by simp [marks]), (Below.refl _ _).alloc (Nat.le_refl _) _⟩
  case round =>
    obtain ⟨k, hk, rfl, hrow, hb⟩ := hrel
    by_cases hlt : k < n
    · obtain ⟨b, off, rfl, hbB, hcell⟩ := hc k hlt
      have hcell' := (hb.cell (p := ⟨b, off + k, none⟩) hbB).trans hcell
      clear hc hcell
      have hkl : k < xs.length := by rw [HL.out]; exact hlt
      have hin := hr (xs.getD k 0) (by rw [show xs.getD k 0 = xs[k] from by simp [hkl]]; exact List.getElem_mem hkl)
      obtain ⟨q, hq⟩ := Int.eq_ofNat_of_zero_le hin.1
      rw [hq] at hcell' hin
      have hq' : (q : Int) = xs.getD k 0 := hq.symm
      have HQ : Hid ((q : Int) = xs.getD k 0) := hq'
      have hqn : q < n := by omega
      have hseen := hrow.cell hqn
      rw [marks_fresh xs k hkl hnd q hq'] at hseen
      have hfz := hrow.frozen q
      clear hq hq' hr hin hkl
      go_wp2
      go_roundw
      case rel =>
        refine ⟨k + 1, by omega, by go_num, (hrow.set q _).congr (fun j hj => marks_succ xs k (by rw [HL.out]; exact hlt) q HQ.out j), hb.setCell (Nat.le_refl _) _⟩
      case measure => simp [intOf]; omega
    · go_wp2
      go_ret
      exact ⟨rfl, hb⟩

end Go.Proofs.Qxb6627646a
