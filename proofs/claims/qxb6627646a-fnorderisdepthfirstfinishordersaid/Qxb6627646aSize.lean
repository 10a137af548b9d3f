import Derived.Test.Qxb6627646aReads
namespace Go.Proofs.Qxb6627646a
open Go.RowKit
set_option linter.unusedVariables false

/-- The sum of the rows' lengths. -/
def total (xss : List (List Int)) : Nat := (xss.map List.length).sum

theorem total_take_succ (xs : List (List Int)) (k : Nat) (hk : k < xs.length) : total (xs.take (k + 1)) = total (xs.take k) + (xs.getD k []).length := by
  have e : xs.getD k [] = xs[k] := by simp [hk]
  rw [List.take_succ_eq_append_getElem hk, e]
  simp only [total, List.map_append, List.sum_append, List.map_cons, List.map_nil, List.sum_cons, List.sum_nil]
  omega

theorem row_len {xs : List (List Int)} {k : Nat} {v : Value} {w : World} {B : Nat} (h : IntRow w B v (xs.getD k [])) : ∃ ao cap, v = .slice ao (xs.getD k []).length cap := by
  obtain ⟨ao, cap, hv, _⟩ := h
  exact ⟨ao, cap, hv⟩

/-- What zzSizeOK answers: a bool; where it is true, the bounds hold. -/
def SzEnd (xs : List (List Int)) (zs : List Int) (e : Ending) : Prop :=
  ∃ r, e = .returned (.bool r) ∧ (r = true → xs.length ≤ 65536 ∧ zs.length ≤ 65536 ∧ total xs ≤ 131072)
theorem SzEnd.no {xs : List (List Int)} {zs : List Int} : SzEnd xs zs (.returned (.bool false)) := ⟨false, rfl, fun h => by cases h⟩
theorem SzEnd.yes {xs : List (List Int)} {zs : List Int} (h1 : xs.length ≤ 65536) (h2 : zs.length ≤ 65536) (h3 : total xs ≤ 131072) : SzEnd xs zs (.returned (.bool true)) := ⟨true, rfl, fun _ => ⟨h1, h2, h3⟩⟩

set_option maxHeartbeats 1000000 in
theorem sizeOK_core (vm v1 v2 v3 : Value) (m : Nat) (xs ys : List (List Int)) (zs : List Int) (B : Nat) (w : World)
    (hm : ∀ ty, (Builtin.len_ #[22] ty #[vm]).run Try.prog w = .ok (.int .i64 m) w) (h1 : IntRows w B v1 xs) (h2 : IntRows w B v2 ys) (h3 : IntRow w B v3 zs)
    (l1 : xs.length ≤ maxLen) (l2 : ys.length ≤ maxLen) (l3 : zs.length ≤ maxLen) (l1' : ∀ k, (xs.getD k []).length ≤ maxLen) (l2' : ∀ k, (ys.getD k []).length ≤ maxLen) :
    Calls Try.prog 5 #[vm, v1, v2, v3] w fun e w' => SzEnd xs zs e ∧ w' = w := by
  obtain ⟨ao1, cap1, rfl, hc1⟩ := h1
  obtain ⟨ao2, cap2, rfl, hc2⟩ := h2
  obtain ⟨ao3, cap3, rfl, _⟩ := h3
  unfold maxLen at l1 l2 l3 l1' l2'
  by_cases a0 : 65536 < m
  · clear hc1 hc2 l1' l2'
    go_enter Try.func5, Try.ntmps5
    go_wp2
    go_ret
    exact ⟨SzEnd.no, rfl⟩
  by_cases a1 : 65536 < xs.length
  · clear hc1 hc2 l1' l2'
    go_enter Try.func5, Try.ntmps5
    go_wp2
    go_ret
    exact ⟨SzEnd.no, rfl⟩
  by_cases a2 : 65536 < ys.length
  · clear hc1 hc2 l1' l2'
    go_enter Try.func5, Try.ntmps5
    go_wp2
    go_ret
    exact ⟨SzEnd.no, rfl⟩
  by_cases a3 : 65536 < zs.length
  · clear hc1 hc2 l1' l2'
    go_enter Try.func5, Try.ntmps5
    go_wp2
    go_ret
    exact ⟨SzEnd.no, rfl⟩
  obtain ⟨t0, ht0⟩ : ∃ t0, t0 = 8 * xs.length + 8 * ys.length + 8 * zs.length := ⟨_, rfl⟩
  by_cases a4 : 1048576 < t0
  · subst ht0
    clear hc1 hc2 l1' l2'
    go_enter Try.func5, Try.ntmps5
    go_wp2
    go_ret
    exact ⟨SzEnd.no, rfl⟩
  subst ht0
  go_enter Try.func5, Try.ntmps5
  go_wp2
  go_loop [9, 10] (fun t i => ∃ k : Nat, k ≤ xs.length ∧ i = .int .i64 k ∧ ∃ s : Nat, t = .int .i64 s ∧ s = 8 * xs.length + 8 * ys.length + 8 * zs.length + 8 * total (xs.take k) ∧ s ≤ 1048576) (fun _ i => xs.length - (intOf i).toNat)
  case atStart => exact ⟨0, Nat.zero_le _, rfl, 8 * xs.length + 8 * ys.length + 8 * zs.length, by go_num, by simp [total], by omega⟩
  case round =>
    obtain ⟨k, hk, rfl, s, rfl, hs, hs'⟩ := hrel
    have HS : Hid (s = 8 * xs.length + 8 * ys.length + 8 * zs.length + 8 * total (xs.take k)) := hs
    clear hs
    by_cases hlt : k < xs.length
    · obtain ⟨b, off, u, rfl, _, hcell, hu⟩ := hc1 k hlt
      obtain ⟨uo, ucap, rfl⟩ := row_len hu
      have hlk := l1' k
      have hts := total_take_succ xs k hlt
      have HT : Hid (total (xs.take (k + 1)) = total (xs.take k) + (xs.getD k []).length) := hts
      clear hts hc1 hc2 l1' l2' hu
      obtain ⟨q, hq⟩ : ∃ q, q = (xs.getD k []).length := ⟨_, rfl⟩
      rw [← hq] at hlk hcell
      have HQ : Hid (q = (xs.getD k []).length) := hq
      clear hq
      by_cases c1 : 1048576 < q
      · go_wp2
        go_ret
        exact ⟨SzEnd.no, rfl⟩
      by_cases c2 : 1048576 < s + 8 * q
      · go_wp2
        go_ret
        exact ⟨SzEnd.no, rfl⟩
      go_wp2
      go_round
      case rel =>
        refine ⟨k + 1, by omega, by go_num, s + 8 * q, by go_num, ?_, by omega⟩
        rw [HT.out, HS.out, ← HQ.out]; omega
      case measure => simp [intOf]; omega
    · have hkn : total xs = total (xs.take k) := by rw [List.take_of_length_le (by omega)]
      have htx : total xs ≤ 131072 := by rw [hkn]; have := HS.out; omega
      clear hc1 l1' hkn HS
      go_wp2
      go_loop [9, 11] (fun t i => ∃ k : Nat, k ≤ ys.length ∧ i = .int .i64 k ∧ ∃ s : Nat, t = .int .i64 s ∧ s ≤ 1048576) (fun _ i => ys.length - (intOf i).toNat)
      case atStart => exact ⟨0, Nat.zero_le _, rfl, _, rfl, by omega⟩
      case round =>
        obtain ⟨k', hk', rfl, s', rfl, hs2⟩ := hrel
        by_cases hlt' : k' < ys.length
        · obtain ⟨b, off, u, rfl, _, hcell, hu⟩ := hc2 k' hlt'
          obtain ⟨uo, ucap, rfl⟩ := row_len hu
          have hlk := l2' k'
          clear hc2 l2' hu
          obtain ⟨q, hq⟩ : ∃ q, q = (ys.getD k' []).length := ⟨_, rfl⟩
          rw [← hq] at hlk hcell
          clear hq
          by_cases c1 : 1048576 < q
          · go_wp2
            go_ret
            exact ⟨SzEnd.no, rfl⟩
          by_cases c2 : 1048576 < s' + 8 * q
          · go_wp2
            go_ret
            exact ⟨SzEnd.no, rfl⟩
          go_wp2
          go_round
          case rel => exact ⟨k' + 1, by omega, by go_num, s' + 8 * q, by go_num, by omega⟩
          case measure => simp [intOf]; omega
        · clear hc2 l2'
          go_wp2
          go_ret
          exact ⟨SzEnd.yes (by omega) (by omega) htx, rfl⟩

end Go.Proofs.Qxb6627646a
