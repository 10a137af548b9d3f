/-
  The law's helpers: the guard on lengths, the test for order.
-/
import Derived.Test.Qxb6627769aFind
namespace Go.Proofs.Qxb6627769a
open Go.RowKit
set_option linter.unusedVariables false

/-- w, some draws on. -/
def Dn (w w' : World) : Prop := ∃ m, w' = w.drewN m
theorem Dn.draws {w w' : World} (h : Dn w w') (n : Nat) : Dn w (w'.drewN n) := by
  obtain ⟨m, rfl⟩ := h
  exact ⟨m + n, World.drewN_drewN _ _ _⟩
theorem Dn.refl (w : World) : Dn w w := ⟨0, rfl⟩
theorem Dn.cell {w w' : World} (h : Dn w w') {a : Addr} {v : Value} (hc : w.cell? a = some v) : w'.cell? a = some v := by
  obtain ⟨m, rfl⟩ := h
  exact hc
theorem Dn.below {w w' : World} (h : Dn w w') (B : Nat) : Below B w w' := by
  obtain ⟨m, rfl⟩ := h
  exact ⟨rfl, rfl, rfl, Nat.le_refl _, fun _ _ => rfl⟩
theorem Dn.trans {a b c : World} (h : Dn a b) (k : Dn b c) : Dn a c := by
  obtain ⟨m, rfl⟩ := k
  exact h.draws m
theorem Dn.size {a b : World} (h : Dn a b) : b.heap.size = a.heap.size := by
  obtain ⟨m, rfl⟩ := h
  rfl

/-- The slice that came in: its n elements are f's. -/
def Row (w : World) (ao : Option Addr) (n : Nat) (f : Nat → Int) : Prop := n = 0 ∨ ∃ b off, ao = some ⟨b, off, none⟩ ∧ b < w.heap.size ∧ ∀ k, k < n → w.cell? ⟨b, off + k, none⟩ = some (.int .u64 (f k))
theorem Row.op {w : World} {ao : Option Addr} {n : Nat} {f : Nat → Int} (h : Row w ao n f) (hn : 0 < n) : ∃ b off, ao = some ⟨b, off, none⟩ ∧ b < w.heap.size ∧ ∀ k, k < n → w.cell? ⟨b, off + k, none⟩ = some (.int .u64 (f k)) := by
  rcases h with h | h
  · omega
  · exact h
theorem Row.below {w w' : World} {ao : Option Addr} {n : Nat} {f : Nat → Int} (h : Row w ao n f) (hB : Below w.heap.size w w') : Row w' ao n f := by
  rcases h with h | ⟨b, off, e, hb, hc⟩
  · exact Or.inl h
  · exact Or.inr ⟨b, off, e, Nat.lt_of_lt_of_le hb hB.size, fun k hk => (hB.cell (p := ⟨b, off + k, none⟩) hb).trans (hc k hk)⟩

/-- f grows strictly on the first n. -/
def Grows (f : Nat → Int) (n : Nat) : Prop := ∀ i j, i < j → j < n → f i < f j
theorem grows_of {f : Nat → Int} {n : Nat} (h : ∀ j, j + 1 < n → f j < f (j + 1)) : Grows f n := by
  intro i j hij hj
  obtain ⟨d, rfl⟩ : ∃ d, j = i + 1 + d := ⟨j - i - 1, by omega⟩
  induction d with
  | zero => exact h i hj
  | succ d ih =>
    have h1 := ih (by omega) (by omega)
    have h2 := h (i + 1 + d) (by omega)
    have e : i + 1 + (d + 1) = i + 1 + d + 1 := by omega
    rw [e]
    omega

def AscEnd (f : Nat → Int) (n : Nat) (w : World) (e : Ending) (w' : World) : Prop := ∃ B : Bool, e = .returned (.bool B) ∧ (B = true → Grows f n) ∧ Dn w w'

set_option maxHeartbeats 2000000 in
theorem ascending (ao : Option Addr) (n cap : Nat) (f : Nat → Int) (w : World) (hn : n ≤ 65536) (hr : Row w ao n f) : Calls Try.prog 6 #[.slice ao n cap] w fun e w' => AscEnd f n w e w' := by
  have HR : Hid (Row w ao n f) := hr
  clear hr
  go_enter Try.func6, Try.ntmps6
  go_wp2
  go_loopg [3] (n + 1) (fun g v3 wr => ∃ k : Nat, v3 = .int .i64 ((k : Int) + 1) ∧ k ≤ n ∧ n - k ≤ g ∧ Hid (Dn w wr) ∧ Hid (∀ j, j < k → j + 1 < n → f j < f (j + 1)))
  case atStart => exact ⟨0, by go_num, by omega, by omega, Dn.refl w, fun i' h => absurd h (Nat.not_lt_zero _)⟩
  case round =>
    obtain ⟨k, rfl, hk, hg, HD, HN⟩ := hrel
    by_cases hlt : k + 1 < n
    · have hltz : (k : Int) + 1 < (n : Int) := by omega
      obtain ⟨b, off, rfl, hb, hc⟩ := HR.out.op (by omega)
      have hc0 : wr.cell? ⟨b, off + k, none⟩ = some (.int .u64 (f k)) := HD.out.cell (hc k (by omega))
      have hc1 : wr.cell? ⟨b, off + (k + 1), none⟩ = some (.int .u64 (f (k + 1))) := HD.out.cell (hc (k + 1) hlt)
      clear hc
      go_wp2
      go_quiet (fail)
      have HD0 : Hid (Dn w (wr.drewN nq)) := HD.out.draws nq
      clear HD
      replace hc0 : (wr.drewN nq).cell? ⟨b, off + k, none⟩ = some (.int .u64 (f k)) := hc0
      generalize wr.drewN nq = wr at HD0 hc0 ⊢
      clear nq hc1 hc0
      by_cases hle : f (k + 1) ≤ f k
      · go_wp2
        go_ret
        exact ⟨false, rfl, fun h => Bool.noConfusion h, HD0.out⟩
      · go_wp2
        go_roundg (n - (k + 1))
        case measure => omega
        case rel => exact ⟨k + 1, by go_num, by omega, by omega, HD0, fun j hj hjn => by
            rcases Nat.lt_or_ge j k with h | h
            · exact HN.out j h hjn
            · obtain rfl : j = k := by omega
              omega⟩
    · have hltz : ¬ (k : Int) + 1 < (n : Int) := by omega
      go_wp2
      go_ret
      exact ⟨true, rfl, fun _ => grows_of (fun j hj => HN.out j (by omega) hj), HD.out⟩

set_option maxHeartbeats 1000000 in
theorem bytes5 (x : Int) (a : Option Addr) (n cap : Nat) (l : Int) (w : World) : Calls Try.prog 5 #[.int .u64 x, .slice a n cap, .int .i64 l] w fun e w' => e = .returned (.bool (decide (n ≤ 1048576))) ∧ w' = w := by
  by_cases h : n ≤ 1048576
  · have hd : decide (n ≤ 1048576) = true := decide_eq_true h
    rw [hd]
    have hz : ¬ (1048576 : Int) < (n : Int) := by omega
    go_enter Try.func5, Try.ntmps5
    go_wp2
    go_ret
    exact ⟨rfl, rfl⟩
  · have hd : decide (n ≤ 1048576) = false := decide_eq_false h
    rw [hd]
    have hz : (1048576 : Int) < (n : Int) := by omega
    go_enter Try.func5, Try.ntmps5
    go_wp2
    go_ret
    exact ⟨rfl, rfl⟩

set_option maxHeartbeats 1000000 in
theorem bytes9 (x : Int) (a : Option Addr) (n cap : Nat) (l : Int) (w : World) : Calls Try.prog 9 #[.int .u64 x, .slice a n cap, .int .i64 l] w fun e w' => e = .returned (.bool (decide (n ≤ 1048576))) ∧ w' = w := by
  by_cases h : n ≤ 1048576
  · have hd : decide (n ≤ 1048576) = true := decide_eq_true h
    rw [hd]
    have hz : ¬ (1048576 : Int) < (n : Int) := by omega
    go_enter Try.func9, Try.ntmps9
    go_wp2
    go_ret
    exact ⟨rfl, rfl⟩
  · have hd : decide (n ≤ 1048576) = false := decide_eq_false h
    rw [hd]
    have hz : (1048576 : Int) < (n : Int) := by omega
    go_enter Try.func9, Try.ntmps9
    go_wp2
    go_ret
    exact ⟨rfl, rfl⟩
end Go.Proofs.Qxb6627769a
