/-
  slices.Values, slices.AppendSeq, slices.Collect at float64. (After the kit's worked examples of a range over a function.)
-/
import Derived.RangeFuncBox
import Derived.RangeFuncLeaves
import Derived.Shelf.Abstract
import Derived.OwnWalkIn
import Derived.TacticsInMore
import Derived.LoopNIn
import Derived.LoopIn
import Derived.Maps.AppendAt
import Derived.Test.Qxb6627713aLess
namespace Go.Proofs.Qxb6627713a
open Go.RowKit Go.Shelf
set_option linter.unusedVariables false

attribute [local go_sem] Oper.semAt_some

def intNo : Value → Int
  | .int _ q => q
  | _ => 0

/-- What has come when k rounds are over. -/
def upto (f : Nat → Nat) (k : Nat) : List Nat := (List.range k).map f
theorem upto_succ (f : Nat → Nat) (k : Nat) : upto f (k + 1) = upto f k ++ [f k] := by simp [upto, List.range_succ]
theorem upto_length (f : Nat → Nat) (k : Nat) : (upto f k).length = k := by simp [upto]

set_option maxRecDepth 100000 in
set_option maxHeartbeats 2000000 in
theorem values1_in (F : Fence) (n : Nat) (h17 : F.fn 17) (hro : F.round = none) (hn : 1 ≤ n) (l Bs n₀ b off len cap : Nat) (f : Nat → Nat) (hreach : len ≤ 1048576) (hb : b < n₀) (J Jx : List Nat → World → Prop)
    (hY : ∀ pre x W, J pre W → pre.length < len → YieldAt F (n - 1) Try.prog l #[.float .f64 x] W fun e W' =>
      (e = .returned (.bool true) ∧ J (pre ++ [x]) W' ∧ Below n₀ W W') ∨ (e = .returned (.bool false) ∧ Jx (pre ++ [x]) W'))
    (W : World) (hBs : W.cell? ⟨Bs, 0, none⟩ = some (.slice (some ⟨b, off, none⟩) len cap)) (hc : ∀ j, j < len → W.cell? ⟨b, off + j, none⟩ = some (.float .f64 (f j))) (h0 : J [] W) :
    CallsIn F n Try.prog 17 #[.func (.yield l) #[] #[], .pointer (some ⟨Bs, 0, none⟩)] W fun e W' => (∃ v, e = .returned v) ∧
      ((∃ ys, ys = upto f len ∧ J ys W') ∨ (∃ pre, True ∧ Jx pre W')) := by
  refine callsIn_of_wp Try.func17 rfl h17 ?_ hro
  simp only [Try.ntmps17, List.size_toArray, List.length_cons, List.length_nil, Nat.reduceAdd, Nat.reduceSub, Array.replicate_succ, Array.replicate_zero, List.push_toArray, List.append_toArray, List.nil_append, List.cons_append]
  gi_wp2
  gi_loopw [7] (fun i wr => ∃ k : Nat, k ≤ len ∧ i = .int .i64 k ∧ J (upto f k) wr ∧ Below n₀ W wr)
    (fun i _ => len - (intNo i).toNat)
  case atStart => exact ⟨0, Nat.zero_le _, rfl, h0, Below.refl _ _⟩
  case round =>
    obtain ⟨k, hk, rfl, hJs, hnx⟩ := hrel
    have hcx : k < len → wr.cell? ⟨b, off + k, none⟩ = some (.float .f64 (f k)) := fun h => (hnx.cell (p := ⟨b, off + k, none⟩) hb).trans (hc k h)
    by_cases hlt : k < len
    · obtain ⟨fn, tmps, assign, body, hy, hR⟩ := hY _ (f k) wr hJs (by rw [upto_length]; exact hlt)
      have hcx' := hcx hlt
      gi_wp2
      refine hR.mono ?_
      rintro e W3 (⟨rfl, hJ3, hk3⟩ | ⟨rfl, hJx3⟩)
      · gi_wp2
        go_roundw
        case rel => exact ⟨k + 1, by omega, by simp, by rw [upto_succ]; exact hJ3, hnx.trans hk3⟩
        case measure => simp [intNo]; omega
      · gi_wp2
        refine bodyPost_ret (results_none rfl _ _ _) rfl ?_
        exact ⟨⟨_, rfl⟩, .inr ⟨_, trivial, hJx3⟩⟩
    · obtain rfl : k = len := by omega
      gi_wp2
      go_end0
      exact ⟨⟨_, rfl⟩, .inl ⟨_, rfl, hJs⟩⟩

set_option maxHeartbeats 1000000 in
theorem values_in (F : Fence) (n : Nat) (h13 : F.fn 13) (hro : F.round = none) (a : Option Addr) (len cap : Nat) (w : World) :
    CallsIn F n Try.prog 13 #[.slice a len cap] w fun e w' => e = .returned (.func (.func 17) #[] #[.pointer (some ⟨w.heap.size, 0, none⟩)]) ∧ w' = w.alloc (.cells #[.slice a len cap] 22) := by
  refine callsIn_of_wp Try.func13 rfl h13 ?_ hro
  simp only [Try.ntmps13, List.size_toArray, List.length_cons, List.length_nil, Nat.reduceAdd, Nat.reduceSub, Array.replicate_succ, Array.replicate_zero, List.push_toArray, List.append_toArray, List.nil_append, List.cons_append]
  gi_wp2
  go_ret
  exact ⟨rfl, rfl⟩

theorem values_stops (F : Fence) (n : Nat) (h17 : F.fn 17) (hro : F.round = none) (hn : 1 ≤ n) (Bs n₀ b off len cap : Nat) (f : Nat → Nat) (hreach : len ≤ 1048576) (w : World) (hBs : Bs < w.heap.size) (hn₀ : n₀ ≤ w.heap.size)
    (hc : w.cell? ⟨Bs, 0, none⟩ = some (.slice (some ⟨b, off, none⟩) len cap)) (hb : b < n₀) (hcs : ∀ j, j < len → w.cell? ⟨b, off + j, none⟩ = some (.float .f64 (f j))) :
    SeqStopsK F n Try.prog 17 #[.pointer (some ⟨Bs, 0, none⟩)] (fun x : Nat => #[Value.float .f64 x]) (Below n₀) (fun ys => ys = upto f len) (fun _ => True) len w := fun l J Jx W hW _ _ hY h0 =>
  values1_in F n h17 hro hn l Bs n₀ b off len cap f hreach hb J Jx hY W ((hW.cell (p := ⟨Bs, 0, none⟩) hBs).trans hc) (fun j hj => ((hW.mono hn₀).cell (p := ⟨b, off + j, none⟩) hb).trans (hcs j hj)) h0

theorem info24 : (Try.prog.info? 24).map (fun i => (i.zero, i.size, i.bytes)) = some (some (.float .f64 0), 1, 8) := by kernel_rfl

set_option maxRecDepth 100000 in
set_option maxHeartbeats 2000000 in
/-- slices.AppendSeq(nil, slices.Values(xs)): a new slice with what xs holds. -/
theorem appendSeq_in (F : Fence) (n : Nat) (h18 : F.fn 18) (h17 : F.fn 17) (hro : F.round = none) (hn : 3 ≤ n) (Bs n₀ b off len cap : Nat) (f : Nat → Nat) (hreach : len ≤ 1048576) (w : World) (hBs : Bs < w.heap.size) (hn₀ : n₀ ≤ w.heap.size)
    (hc : w.cell? ⟨Bs, 0, none⟩ = some (.slice (some ⟨b, off, none⟩) len cap)) (hb : b < n₀) (hcs : ∀ j, j < len → w.cell? ⟨b, off + j, none⟩ = some (.float .f64 (f j))) :
    CallsIn F n Try.prog 18 #[.slice none 0 0, .func (.func 17) #[] #[.pointer (some ⟨Bs, 0, none⟩)]] w fun e W' => ∃ v, e = .returned v ∧ W'.ownsRow w.heap.size 24 1 v len ((upto f len).map (Value.float .f64)) ∧ Below w.heap.size w W' := by
  have h1 : 1 ≤ n := by omega
  have hml : len ≤ maxLen := by unfold maxLen; omega
  obtain ⟨i0, hi, hz0, hz1, hz2⟩ := info_parts info24
  refine callsIn_of_wp_marks Try.func18 rfl h18 ?_ hro
  simp only [Try.ntmps18, List.size_toArray, List.length_cons, List.length_nil, Nat.reduceAdd, Nat.reduceSub, Array.replicate_succ, Array.replicate_zero, List.push_toArray, List.append_toArray, List.nil_append, List.cons_append]
  gi_wp2
  have bO := Boxed.new w 22 (.slice none 0 0)
  have hB0 : Below w.heap.size w (w.alloc (.cells #[.slice none 0 0] 22)) := (Below.refl _ w).alloc (Nat.le_refl _) _
  have hcB : (w.alloc (.cells #[.slice none 0 0] 22)).cell? ⟨Bs, 0, none⟩ = some (.slice (some ⟨b, off, none⟩) len cap) := (hB0.cell (p := ⟨Bs, 0, none⟩) hBs).trans hc
  have hcsB : ∀ j, j < len → (w.alloc (.cells #[.slice none 0 0] 22)).cell? ⟨b, off + j, none⟩ = some (.float .f64 (f j)) := fun j hj => (hB0.cell (p := ⟨b, off + j, none⟩) (by show b < _; omega)).trans (hcs j hj)
  refine wpIn_rangeFunc_ownG hro h1 (gf := 17) (lb := #[.pointer (some ⟨Bs, 0, none⟩)]) rfl h17 (enters_of Try.func17 (by kernel_rfl) rfl)
    (values_stops F (n - 1) h17 hro (by omega) Bs n₀ b off len cap f hreach _ (by simp; omega) (by simp; omega) hcB hb hcsB) belowK_t (belowK_b (by simp; omega)) (Below.refl _ _) (fun _ => rfl)
    (fun (pre : List Nat) W => (∃ v, Boxed W w.heap.size 22 v ∧ W.ownsRow w.heap.size 24 1 v pre.length (pre.map (Value.float .f64)) ∧ True) ∧ Below w.heap.size w W)
    (fun _ _ _ => False)
    (OwnFrom.and (Own.from (holdsRow_own w.heap.size w.heap.size 22 24 1 (fun (pre : List Nat) => pre.length) (fun (pre : List Nat) => pre.map (Value.float .f64)) (fun (pre : List Nat) v => True)) _) (ownFrom_below (Nat.le_refl _) (by simp)))
    (fun _ _ _ _ _ hs _ _ => hs)
    ⟨⟨_, bO, World.ownsRow_nil _ _ _ _, trivial⟩, hB0⟩
    (fun x => { tmps := #[.slice none 0 0, .func (.func 17) #[] #[.pointer (some ⟨Bs, 0, none⟩)], .pointer (some ⟨w.heap.size, 0, none⟩), undef, .slice none 0 0, .float .f64 x, .func (.func 17) #[] #[.pointer (some ⟨Bs, 0, none⟩)], .float .f64 x, undef, undef, undef, undef, undef], defers := [] }) ?assign ?body ?done ?halted
  case assign =>
    intro l x W K hK
    gi_wp2
    exact hK
  case body =>
    rintro l pre x W ⟨⟨v, hv, hrow, _⟩, hB⟩ hlt
    have hc := hv.cell
    gi_wp2_with (gi_at_builtin; refine wpListIn_append_own _ rfl _ _ 22 rfl w.heap.size 24 i0 (.float .f64 0) 1 8 Try.underlying22 hi hz0 hz1 hz2 rfl (by decide) _ _ _ rfl (hrow.alloc _) ⟨W.heap.size, 0, none⟩ 1 1 [.float .f64 x] rfl rfl (cell_one_new _ _ _) (by simp [Value.oneCell']) (by omega) (by omega) (by have := hB.size; simp; omega) ?_; intro v' w1 hown' hgrow _; obtain ⟨g', cap', rfl⟩ := ownsRow_succ hown'; obtain ⟨hv1, hv2, hr2, hk2, hb2⟩ := hv.appended (by decide) hrow hB.size (Nat.le_refl _) hown' hgrow; have hc1 := hv1.cell; have hf1 := hv1.frozen)
    exact ⟨hk2.from _, hb2.mono hn₀, ⟨_, hv2, by simpa using hr2, trivial⟩, hB.trans hb2⟩
  case done =>
    rintro D ys W hD rfl ⟨⟨v, hv, hrow, _⟩, hB⟩ hK
    have hc := hv.cell
    gi_wp2
    refine ⟨by simp, .inl ⟨_, _, rfl, run_takeDeferred hK, ?_⟩⟩
    rw [upto_length] at hrow
    exact ⟨_, results_tmp rfl _ _ _, v, rfl, ownsRow_putObj hrow _ hK rfl, hB.trans (belowK_b (w := w) (Nat.le_refl _) W D _ _ (by simp at hD; omega) hK rfl rfl)⟩
  case halted =>
    rintro D c pre W _ _ h _
    exact h.elim
end Go.Proofs.Qxb6627713a
