import Derived.Test.Qxb6627688aLaw3
import Derived.Deep.OwnRows
import Derived.Deep.CutRange
import Derived.Deep.RegionWith
import Derived.Laws.BitsAllLaws
namespace Go.Proofs.Qxb6627688a
open Go.RowKit
set_option linter.unusedVariables false

/-- The bytes of b, each with its high bit set. -/
def highL (b : ByteArray) : List UInt8 := b.data.toList.map fun c => c ||| 128

theorem highL_len (b : ByteArray) : (highL b).length = b.size := by simp [highL]
theorem high_byte (b : ByteArray) (k : Nat) (h : k < b.size) : (.int .u8 (bits .or .u8 (b[k].toNat : Int) 128) : Value) = byteV ((highL b).getD k 0) := by
  have hlt : b[k].toNat < 256 := b[k].toNat_lt
  have e1 : bits .or .u8 (b[k].toNat : Int) 128 = ((b[k].toNat ||| 128 : Nat) : Int) := u8_or_nat b[k].toNat 128 hlt (by decide)
  have e2 : (highL b).getD k 0 = b[k] ||| 128 := by
    have hk : k < b.data.toList.length := by simpa using h
    rw [List.getD, highL, List.getElem?_map, List.getElem?_eq_getElem hk]
    rfl
  rw [e1, e2, byteV]
  rfl
theorem high_ok (b : ByteArray) : okL (highL b) = true := by
  refine List.all_eq_true.2 fun c hc => ?_
  obtain ⟨d, _, rfl⟩ := List.mem_map.1 hc
  have e : (d ||| 128).toNat = d.toNat ||| 128 := rfl
  have h1 : 128 ≤ d.toNat ||| 128 := Nat.right_le_or
  rw [e]
  unfold okC
  have h2 : decide (32 ≤ d.toNat ||| 128) = true := decide_eq_true (by omega)
  have h3 : (d.toNat ||| 128 == 127) = false := by rw [beq_eq_false_iff_ne]; omega
  rw [h2, h3]; rfl

theorem ok_cat (a b : ByteArray) : okL (a ++ b).data.toList = (okL a.data.toList && okL b.data.toList) := by
  have : (a ++ b).data.toList = a.data.toList ++ b.data.toList := by simp
  rw [this, okL_append]
theorem ok_cr (a b : ByteArray) : okL (a ++ ⟨#[13]⟩ ++ b).data.toList = false := by
  rw [ok_cat, ok_cat]
  have : okL (ByteArray.mk #[13]).data.toList = false := by decide
  rw [this]; simp
theorem ok_lf (a b : ByteArray) : okL (a ++ ⟨#[10]⟩ ++ b).data.toList = false := by
  rw [ok_cat, ok_cat]
  have : okL (ByteArray.mk #[10]).data.toList = false := by decide
  rw [this]; simp

set_option maxHeartbeats 1000000 in
theorem law4_walk (a b : ByteArray) (w : World) (ha : a.size ≤ maxLen) (hb : b.size ≤ maxLen) :
    Calls Try.prog 4 #[.string a, .string b] w fun e w' => e = .returned (.bool true) ∧ Below w.heap.size w w' := by
  have hg := bytes2_any a b w ha hb
  unfold maxLen at ha hb
  by_cases h0 : 1048576 < a.size + b.size
  · rw [show decide (a.size + b.size ≤ 1048576) = false from by simp; omega] at hg
    go_enter Try.func4, Try.ntmps4
    go_wp2_with (go_at_call 7; refine hg.mono ?_; rintro e w' ⟨rfl, hw⟩; subst w')
    go_ret
    exact ⟨rfl, Below.refl _ _⟩
  rw [show decide (a.size + b.size ≤ 1048576) = true from by simp; omega] at hg
  by_cases h1 : 524288 < a.size
  · go_enter Try.func4, Try.ntmps4
    go_wp2_with (go_at_call 7; refine hg.mono ?_; rintro e w' ⟨rfl, hw⟩; subst w')
    go_ret
    exact ⟨rfl, Below.refl _ _⟩
  by_cases h2 : 524288 < b.size
  · go_enter Try.func4, Try.ntmps4
    go_wp2_with (go_at_call 7; refine hg.mono ?_; rintro e w' ⟨rfl, hw⟩; subst w')
    go_ret
    exact ⟨rfl, Below.refl _ _⟩
  have hmk := run_make_row' (P := Try.prog) 23 5 (.int .u8 0) 1 Try.underlying23 Try.info5 rfl .i64 .i64 b.size (by omega) (by omega)
  go_enter Try.func4, Try.ntmps4
  go_wp2_with (go_at_call 7; refine hg.mono ?_; rintro e w' ⟨rfl, hw⟩; subst w')
  have HB1 : Hid (a.size ≤ 524288) := by show _ ≤ _; omega
  have HB2 : Hid (b.size ≤ 524288) := by show _ ≤ _; omega
  clear hmk hg h0 h1 h2
  go_loopw [6] (fun c wr => ∃ k : Nat, k ≤ b.size ∧ c = .int .i64 k ∧ wr.rowIs w.heap.size 5 b.size (fun j => if j < k then byteV ((highL b).getD j 0) else .int .u8 0) ∧ Below w.heap.size w wr) (fun c _ => b.size - (intOf c).toNat)
  case atStart => exact ⟨0, Nat.zero_le _, rfl, (World.rowIs_made w _ b.size 5).congr (fun j _ => by simp), (Below.refl _ _).alloc (Nat.le_refl _) _⟩
  case round =>
    obtain ⟨k, hk, rfl, hrow, hbl⟩ := hrel
    have HROW : Hid (wr.rowIs w.heap.size 5 b.size (fun j => if j < k then byteV ((highL b).getD j 0) else .int .u8 0)) := hrow
    have HB : Hid (Below w.heap.size w wr) := hbl
    by_cases hlt : k < b.size
    · have cr := hrow.cell hlt
      have fr := hrow.frozen k
      clear hrow hbl
      go_wp2
      go_roundw
      case rel =>
        refine ⟨k + 1, by omega, by go_num, (HROW.out.set k _).congr (fun j _ => ?_), HB.out.setCell (Nat.le_refl _) _⟩
        by_cases e : j = k
        · subst e
          rw [if_pos rfl, if_pos (by omega), high_byte b j hlt]
        · rw [if_neg e]
          by_cases h1 : j < k
          · rw [if_pos h1, if_pos (by omega)]
          · rw [if_neg h1, if_neg (by omega)]
      case measure => simp [intOf]; omega
    · have hkb : k = b.size := by omega
      subst hkb
      have hconv := run_convert_bytes_back (P := Try.prog) wr 23 9 5 ⟨w.heap.size, 0, none⟩ b.size (highL b) Try.underlying23 Try.underlying5 Try.underlying9 (fun j hj => by
        have hj' : j < b.size := by rw [highL_len] at hj; exact hj
        have := hrow.cell hj'
        rw [if_pos hj'] at this
        rw [Addr.add_lit, Nat.zero_add, this]
        simp [byteV, List.getD, hj])
      rw [highL_len] at hconv
      obtain ⟨h, hh⟩ : ∃ h, h = ByteArray.mk (highL b).toArray := ⟨_, rfl⟩
      rw [← hh] at hconv
      have hhs : h.size = b.size := by rw [hh]; show (highL b).toArray.size = _; simp [highL_len]
      have hho : okL h.data.toList = true := by rw [hh]; simpa using high_ok b
      have HHO : Hid (okL h.data.toList = true) := hho
      have hb1 := HB1.out
      have hb2 := HB2.out
      have c1 : Calls Try.prog 6 #[.string (a ++ b)] wr fun e w' => e = .returned (.bool (okL a.data.toList && okL b.data.toList)) ∧ w' = wr := by
        rw [← ok_cat]; exact header_any _ _ (by unfold maxLen; rw [ByteArray.size_append]; omega)
      have c2 := header_any a wr (by unfold maxLen; omega)
      have c3 := header_any b wr (by unfold maxLen; omega)
      have c4 : Calls Try.prog 6 #[.string h] wr fun e w' => e = .returned (.bool true) ∧ w' = wr := by
        rw [← hho]; exact header_any _ _ (by unfold maxLen; omega)
      have c5 : Calls Try.prog 6 #[.string (a ++ h)] wr fun e w' => e = .returned (.bool (okL a.data.toList)) ∧ w' = wr := by
        have := header_any (a ++ h) wr (by unfold maxLen; rw [ByteArray.size_append]; omega)
        rwa [ok_cat, hho, Bool.and_true] at this
      have c6 : Calls Try.prog 6 #[.string (a ++ ⟨#[13]⟩ ++ b)] wr fun e w' => e = .returned (.bool false) ∧ w' = wr := by
        have := header_any (a ++ ⟨#[13]⟩ ++ b) wr (by unfold maxLen; rw [ByteArray.size_append, ByteArray.size_append]; show a.size + 1 + b.size ≤ _; omega)
        rwa [ok_cr] at this
      have c7 : Calls Try.prog 6 #[.string (a ++ ⟨#[10]⟩ ++ b)] wr fun e w' => e = .returned (.bool false) ∧ w' = wr := by
        have := header_any (a ++ ⟨#[10]⟩ ++ b) wr (by unfold maxLen; rw [ByteArray.size_append, ByteArray.size_append]; show a.size + 1 + b.size ≤ _; omega)
        rwa [ok_lf] at this
      obtain ⟨qa, hqa⟩ : ∃ qa, qa = okL a.data.toList := ⟨_, rfl⟩
      obtain ⟨qb, hqb⟩ : ∃ qb, qb = okL b.data.toList := ⟨_, rfl⟩
      rw [← hqa] at c1 c2 c5
      rw [← hqb] at c1 c3
      have hhs' : h.size ≤ 524288 := by omega
      clear hrow hbl hh hho hqa hqb hhs
      go_upto_region 13 with fail
      cases qa
      all_goals cases qb
      all_goals
        go_wp2_with (first
          | (go_at_call_of 6 (Value.string (a ++ b)); refine c1.mono ?_; rintro e w' ⟨rfl, hw⟩; subst w')
          | (go_at_call_of 6 (Value.string a); refine c2.mono ?_; rintro e w' ⟨rfl, hw⟩; subst w')
          | (go_at_call_of 6 (Value.string b); refine c3.mono ?_; rintro e w' ⟨rfl, hw⟩; subst w')
          | (go_at_call_of 6 (Value.string h); refine c4.mono ?_; rintro e w' ⟨rfl, hw⟩; subst w')
          | (go_at_call_of 6 (Value.string (a ++ h)); refine c5.mono ?_; rintro e w' ⟨rfl, hw⟩; subst w'))
        refine c6.mono ?_
        rintro e w' ⟨rfl, hw⟩
        subst w'
        go_wp2_with fail
        refine c7.mono ?_
        rintro e w' ⟨rfl, hw⟩
        subst w'
        go_wp2_with fail
        go_ret
        exact ⟨rfl, HB.out⟩

end Go.Proofs.Qxb6627688a
