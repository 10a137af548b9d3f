/-
  The library's insertion sort.
-/
import Derived.Test.Qxb6627769aLess
import Derived.BigGuard
import Derived.BigCall
import Derived.CellFam
import Derived.RegionTactic
import Derived.BigRegion
import Derived.Deep.QuietTactic
import Derived.BigQuiet
import Derived.Deep.LoopGhost
import Derived.Deep.CutRange
namespace Go.Proofs.Qxb6627769a
open Go.RowKit Go.Sort
set_option linter.unusedVariables false

section
variable {α : Type} [Inhabited α] {lt : α → α → Bool}
theorem inner_go {a j : Nat} {d : Array α} (hj : a < j + 1) (hl : lt d[j + 1]! d[j]! = true) : insInner lt a (j + 1) d = insInner lt a j (swp d (j + 1) j) := by
  rw [insInner, if_pos (by simp [hl]; omega)]
theorem inner_low {a j : Nat} {d : Array α} (hj : j ≤ a) : insInner lt a j d = d := by
  cases j with
  | zero => rfl
  | succ k => rw [insInner, if_neg (by simp; intro; omega)]
theorem inner_no {a j : Nat} {d : Array α} (hl : lt d[j + 1]! d[j]! = false) : insInner lt a (j + 1) d = d := by
  rw [insInner, if_neg (by simp [hl])]
theorem outer_go {a b i : Nat} {d : Array α} (h : i < b) : insOuter lt a b i d = insOuter lt a b (i + 1) (insInner lt a i d) := by rw [insOuter, if_pos h]
theorem outer_end {a b i : Nat} {d : Array α} (h : ¬ i < b) : insOuter lt a b i d = d := by rw [insOuter, if_neg h]
end

set_option maxHeartbeats 4000000 in
theorem insertion (w0 : World) (g off N cap a b : Nat) (d : Array Int) (w : World) (hA : Arr w0 g off N d w) (hab : a ≤ b) (hb : b ≤ N) (hN : N < 4611686018427387904) :
    Calls Try.prog 17 #[.slice (some ⟨g, off, none⟩) N cap, .int .i64 a, .int .i64 b] w fun e w' => e = .returned (.tuple #[]) ∧ Hid (Arr w0 g off N (insertionSort ult d a b) w') := by
  have HA : Hid (Arr w0 g off N d w) := hA
  clear hA
  have hst := storeE
  go_enter Try.func17, Try.ntmps17
  go_wp2
  go_loopg [6] (b + 1) (fun k vi wr => ∃ (i : Nat) (dk : Array Int), vi = .int .i64 i ∧ a < i ∧ i ≤ b + 1 ∧ b + 1 - i ≤ k ∧ Hid (Arr w0 g off N dk wr) ∧ Hid (insOuter ult a b i dk = insOuter ult a b (a + 1) d))
  case atStart => exact ⟨a + 1, d, by go_num, by omega, by omega, by omega, HA, rfl⟩
  case round =>
    clear HA
    obtain ⟨i, dk, rfl, hai, hib, hk, HA, HO⟩ := hrel
    by_cases hlt : i < b
    · go_wp2
      go_loopg [7] i (fun k vj wr => ∃ (j : Nat) (dj : Array Int), vj = .int .i64 j ∧ a ≤ j ∧ j ≤ i ∧ j ≤ k ∧ Hid (Arr w0 g off N dj wr) ∧ Hid (insInner ult a j dj = insInner ult a i dk))
      case atStart => exact ⟨i, dk, rfl, by omega, Nat.le_refl _, Nat.le_refl _, HA, rfl⟩
      case round =>
        clear HA
        obtain ⟨j, dj, rfl, haj, hji, hk2, HA, HI⟩ := hrel
        by_cases hja : a < j
        · obtain ⟨jp, rfl⟩ : ∃ q, j = q + 1 := ⟨j - 1, by omega⟩
          obtain ⟨G, hG⟩ : ∃ G : Nat → Int, ∀ t, G t = dj[t]! := ⟨fun t => dj[t]!, fun _ => rfl⟩
          have hcw : ∀ t, t < N → wr.cell? ⟨g, off + t, none⟩ = some (.int .u64 (G t)) := fun t ht => by rw [hG]; exact HA.out.cell t ht
          have hfw : ∀ t, t < N → wr.frozen? ⟨g, off + t, none⟩ = false := fun t ht => HA.out.frozen t ht
          have HG : Hid (∀ t, G t = dj[t]!) := hG
          clear hG
          have hz : (a : Int) < (jp : Int) + 1 := by omega
          have hzd : decide ((a : Int) < (jp : Int) + 1) = true := decide_eq_true hz
          go_wp2
          go_quiet (first | (go_at_call 12; refine Calls.quiet_of_same (less _ _ _)))
          go_wp2
          · have hl : ult (G (jp + 1)) (G jp) = true := by assumption
            go_region
            all_goals go_wp2
            go_roundg jp
            case measure => omega
            case rel =>
              refine ⟨jp, swp dj (jp + 1) jp, by first | rfl | go_num, by omega, by omega, Nat.le_refl _, ?_, ?_⟩
              · rw [HG.out, HG.out]
                exact ((HA.out.draws _).drew.swap (jp + 1) jp (by omega) (by omega))
              · show _ = _
                rw [← HI.out, inner_go (by omega) (by rw [← HG.out, ← HG.out]; exact hl)]
          · have hl : ult (G (jp + 1)) (G jp) = false := by assumption
            go_roundg (b - i)
            case measure => omega
            case rel => exact ⟨i + 1, dj, by go_num, by omega, by omega, by omega, HA.out.draws _, (show _ = _ by rw [← HO.out, outer_go hlt, ← HI.out, inner_no (by rw [← HG.out, ← HG.out]; exact hl)])⟩
        · go_wp2
          go_quiet (first | (go_at_call 12; refine Calls.quiet_of_same (less _ _ _)))
          go_wp2
          go_roundg (b - i)
          case measure => omega
          case rel => exact ⟨i + 1, dj, by go_num, by omega, by omega, by omega, HA.out.draws _, (show _ = _ by rw [← HO.out, outer_go hlt, ← HI.out, inner_low (by omega)])⟩
    · go_wp2
      go_end0
      exact ⟨rfl, show Arr _ _ _ _ _ _ by unfold insertionSort; rw [← HO.out, outer_end hlt]; exact HA.out⟩
end Go.Proofs.Qxb6627769a
