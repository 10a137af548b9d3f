/-
  config.IsHeaderValue, byte by byte; the two length guards.
-/
import Derived.Test.Qxb6627688aRows
import Derived.WalkKit
import Derived.WalkSpells
import Derived.WalkLawsBesides
namespace Go.Proofs.Qxb6627688a
open Go.RowKit
set_option linter.unusedVariables false

/-- May the byte n stand in a header value? -/
def okC (n : Nat) : Bool := (decide (32 ≤ n) || n == 9) && !(n == 127)
def okL (l : List UInt8) : Bool := l.all fun c => okC c.toNat

theorem okL_append (l m : List UInt8) : okL (l ++ m) = (okL l && okL m) := by simp [okL]
theorem take_snoc (s : ByteArray) (k : Nat) (h : k < s.size) : s.data.toList.take (k + 1) = s.data.toList.take k ++ [s[k]] := by
  rw [List.take_succ_eq_append_getElem (by simpa using h)]; rfl
theorem okL_no {s : ByteArray} {k : Nat} (h : k < s.size) (hc : okC s[k].toNat = false) : okL s.data.toList = false := by
  rw [Bool.eq_false_iff]
  intro ht
  have := List.all_eq_true.1 ht s[k] (by rw [show s[k] = s.data.toList[k]'(by simpa using h) from rfl]; exact List.getElem_mem _)
  rw [hc] at this
  cases this
theorem okL_step {s : ByteArray} {k : Nat} (h : k < s.size) (hc : okC s[k].toNat = true) (hp : okL (s.data.toList.take k) = true) : okL (s.data.toList.take (k + 1)) = true := by
  rw [take_snoc s k h, okL_append, hp]
  simp [okL, hc]

theorem ret_bool {a b : Bool} (h : a = b) : Ending.returned (.bool a) = .returned (.bool b) := by rw [h]

set_option maxHeartbeats 400000 in
theorem header_any (s : ByteArray) (w : World) (hs : s.size ≤ maxLen) :
    Calls Try.prog 6 #[.string s] w fun e w' => e = .returned (.bool (okL s.data.toList)) ∧ w' = w := by
  unfold maxLen at hs
  go_enter Try.func6, Try.ntmps6
  go_wp2
  go_loop [3] (fun i => ∃ k : Nat, k ≤ s.size ∧ i = .int .i64 k ∧ okL (s.data.toList.take k) = true) (fun i => s.size - (intOf i).toNat)
  case atStart => exact ⟨0, Nat.zero_le _, rfl, rfl⟩
  case round =>
    obtain ⟨k, hk, rfl, hok⟩ := hrel
    have HOK : Hid (okL (s.data.toList.take k) = true) := hok
    clear hok
    by_cases hlt : k < s.size
    · have HNO : Hid (okC s[k].toNat = false → okL s.data.toList = false) := okL_no hlt
      have HYES : Hid (okC s[k].toNat = true → okL (s.data.toList.take (k + 1)) = true) := fun hc => okL_step hlt hc HOK.out
      by_cases h1 : (s[k].toNat : Int) < 32
      · by_cases h2 : (s[k].toNat : Int) = 9
        · have HC : Hid (okC s[k].toNat = true) := by
            show okC s[k].toNat = true
            have : s[k].toNat = 9 := by omega
            rw [this]; rfl
          have t2 : ((s[k].toNat : Int) != 9) = false := by simp [h2]
          have t3 : ((s[k].toNat : Int) == 127) = false := by rw [beq_eq_false_iff_ne]; omega
          clear h2
          go_wp2
          go_round
          case rel => exact ⟨k + 1, by omega, by go_num, HYES.out HC.out⟩
          case measure => simp [intOf]; omega
        · have HC : Hid (okC s[k].toNat = false) := by
            show okC s[k].toNat = false
            have e1 : ¬ 32 ≤ s[k].toNat := by omega
            have e2 : ¬ s[k].toNat = 9 := by omega
            simp [okC, e2]; omega
          have t2 : ((s[k].toNat : Int) != 9) = true := by simp [h2]
          clear h2
          go_wp2
          go_ret
          exact ⟨ret_bool (HNO.out HC.out).symm, rfl⟩
      · by_cases h3 : (s[k].toNat : Int) = 127
        · have HC : Hid (okC s[k].toNat = false) := by
            show okC s[k].toNat = false
            have : s[k].toNat = 127 := by omega
            rw [this]; rfl
          have t3 : ((s[k].toNat : Int) == 127) = true := by simp [h3]
          clear h3
          go_wp2
          go_ret
          exact ⟨ret_bool (HNO.out HC.out).symm, rfl⟩
        · have HC : Hid (okC s[k].toNat = true) := by
            show okC s[k].toNat = true
            have e1 : 32 ≤ s[k].toNat := by omega
            have e2 : ¬ s[k].toNat = 127 := by omega
            simp [okC, e1, e2]
          have t3 : ((s[k].toNat : Int) == 127) = false := by rw [beq_eq_false_iff_ne]; exact h3
          clear h3
          go_wp2
          go_round
          case rel => exact ⟨k + 1, by omega, by go_num, HYES.out HC.out⟩
          case measure => simp [intOf]; omega
    · go_wp2
      go_ret
      have hok := HOK.out
      rw [List.take_of_length_le (by simp; omega)] at hok
      exact ⟨ret_bool hok.symm, rfl⟩

theorem bytes1_any (s : ByteArray) (w : World) (hs : s.size ≤ maxLen) : Calls Try.prog 5 #[.string s] w fun e w' => e = .returned (.bool (decide (s.size ≤ 1048576))) ∧ w' = w := by
  unfold maxLen at hs
  by_cases h : 1048576 < s.size
  · go_enter Try.func5, Try.ntmps5
    go_wp2
    go_ret
    exact ⟨ret_bool (by simp; omega), rfl⟩
  · go_enter Try.func5, Try.ntmps5
    go_wp2
    go_ret
    exact ⟨ret_bool (by simp; omega), rfl⟩

theorem bytes2_any (s t : ByteArray) (w : World) (hs : s.size ≤ maxLen) (ht : t.size ≤ maxLen) : Calls Try.prog 7 #[.string s, .string t] w fun e w' => e = .returned (.bool (decide (s.size + t.size ≤ 1048576))) ∧ w' = w := by
  unfold maxLen at hs ht
  by_cases h : 1048576 < s.size
  · go_enter Try.func7, Try.ntmps7
    go_wp2
    go_ret
    exact ⟨ret_bool (by simp; omega), rfl⟩
  · by_cases h2 : 1048576 < t.size
    · go_enter Try.func7, Try.ntmps7
      go_wp2
      go_ret
      exact ⟨ret_bool (by simp; omega), rfl⟩
    · by_cases h3 : 1048576 < s.size + t.size
      · go_enter Try.func7, Try.ntmps7
        go_wp2
        go_ret
        exact ⟨ret_bool (by simp; omega), rfl⟩
      · go_enter Try.func7, Try.ntmps7
        go_wp2
        go_ret
        exact ⟨ret_bool (by simp; omega), rfl⟩

end Go.Proofs.Qxb6627688a
