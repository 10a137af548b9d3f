import Derived.Test.Qxb6627688aHeader
import Derived.Maps.AppendAt
import Derived.Laws.IdiomStrings
namespace Go.Proofs.Qxb6627688a
open Go.RowKit
set_option linter.unusedVariables false

theorem Try.info5 : (Try.prog.info? 5).map (fun i => (i.zero, i.size, i.bytes)) = some (some (.int .u8 0), 1, 1) := by kernel_rfl

def byteV (c : UInt8) : Value := .int .u8 (c.toNat : Int)
/-- Those of the first k bytes that are accepted alone. -/
def keptL (s : ByteArray) (k : Nat) : List UInt8 := (s.data.toList.take k).filter fun c => okC c.toNat

theorem keptL_ok (s : ByteArray) (k : Nat) : okL (keptL s k) = true := by
  refine List.all_eq_true.2 fun c hc => ?_
  exact (List.mem_filter.1 hc).2
theorem keptL_step (s : ByteArray) (k : Nat) (h : k < s.size) : keptL s (k + 1) = keptL s k ++ (if okC s[k].toNat = true then [s[k]] else []) := by
  unfold keptL
  rw [take_snoc s k h, List.filter_append]
  by_cases hc : okC s[k].toNat = true
  · simp [hc]
  · simp [hc]
theorem keptL_le (s : ByteArray) (k : Nat) : (keptL s k).length ≤ s.size := by
  have h1 := List.length_filter_le (fun c : UInt8 => okC c.toNat) (s.data.toList.take k)
  have h2 : (s.data.toList.take k).length ≤ s.data.toList.length := List.length_take_le' k _
  have h3 : s.data.toList.length = s.size := by simp
  unfold keptL; omega
theorem okL_one (s : ByteArray) (k : Nat) (h : k < s.size) : okL (s.extract k (k + 1)).data.toList = okC s[k].toNat := by
  have e : (s.extract k (k + 1)).data.toList = [s[k]] := by
    have h1 : (s.extract k (k + 1)).data.toList = (s.data.toList.drop k).take 1 := by simp [ByteArray.data_extract]
    rw [h1, List.drop_eq_getElem_cons (by simpa using h)]
    rfl
  rw [e]
  simp [okL]

theorem own_slice {w : World} {base e size k : Nat} {v : Value} {xs : List Value} (h : w.ownsRow base e size v (k + 1) xs) : ∃ g cap, v = .slice (some ⟨g, 0, none⟩) (k + 1) cap := by
  rcases h.2 with ⟨_, h0⟩ | ⟨g, cap, cur, hv, _⟩
  · omega
  · exact ⟨g, cap, hv⟩
theorem own_some {w : World} {base e size k : Nat} {v : Value} {xs : List Value} (h : w.ownsRow base e size v k xs) (hn : v ≠ .slice none 0 0) : ∃ g cap, v = .slice (some ⟨g, 0, none⟩) k cap := by
  rcases h.2 with ⟨h0, _⟩ | ⟨g, cap, cur, hv, _⟩
  · exact absurd h0 hn
  · exact ⟨g, cap, hv⟩

set_option maxHeartbeats 1000000 in
theorem law3_walk (s : ByteArray) (w : World) (hs : s.size ≤ maxLen) :
    Calls Try.prog 3 #[.string s] w fun e w' => e = .returned (.bool true) ∧ Below w.heap.size w w' := by
  have hb := bytes1_any s w hs
  have HH : Hid (∀ W : World, Calls Try.prog 6 #[.string s] W fun e w' => e = .returned (.bool (okL s.data.toList)) ∧ w' = W) := fun W => header_any s W hs
  unfold maxLen at hs
  by_cases hbig : 1048576 < s.size
  · rw [show decide (s.size ≤ 1048576) = false from by simp; omega] at hb
    go_enter Try.func3, Try.ntmps3
    go_wp2_with (go_at_call 5; refine hb.mono ?_; rintro e w' ⟨rfl, hw⟩; subst w')
    go_ret
    exact ⟨rfl, Below.refl _ _⟩
  · rw [show decide (s.size ≤ 1048576) = true from by simp; omega] at hb
    obtain ⟨i0, hi0, hz0, hz1, hz2⟩ := info_parts Try.info5
    go_enter Try.func3, Try.ntmps3
    go_wp2_with (first | (go_at_call 5; refine hb.mono ?_; rintro e w' ⟨rfl, hw⟩; subst w') | (at_make; refine wpList_make_own _ rfl (.const (.int .i64 0)) (.tmp 13) 23 rfl w.heap.size 5 i0 (.int .u8 0) 1 Try.underlying23 hi0 hz0 hz1 .i64 .i64 s.size s.size rfl rfl rfl (by rw [hz2]; omega) (by unfold maxLen; omega) (by simp) ?_; intro w1 hown1 hgrow1))
    have HO1 : Hid (w1.ownsRow w.heap.size 5 1 (.slice (some ⟨w.heap.size, 0, none⟩) 0 s.size) 0 []) := hown1
    have HB1 : Hid (Below w.heap.size w w1) := Below.grown (Below.refl _ _) hgrow1 (Nat.le_refl _) (fun k hk => by cases hk)
    have HBND : Hid (s.size ≤ 1048576) := by show _ ≤ _; omega
    clear hown1 hgrow1 hb hbig
    go_loopw [5, 3, 4] (fun c ev vk wr => ∃ k : Nat, k ≤ s.size ∧ c = .int .i64 k ∧ ev = .bool (okL (s.data.toList.take k)) ∧ vk ≠ .slice none 0 0 ∧ wr.ownsRow w.heap.size 5 1 vk (keptL s k).length ((keptL s k).map byteV) ∧ Below w.heap.size w wr) (fun c _ _ _ => s.size - (intOf c).toNat)
    case atStart => exact ⟨0, Nat.zero_le _, rfl, rfl, by simp, HO1.out, HB1.out⟩
    case round =>
      obtain ⟨k, hk, rfl, rfl, hnn, hown, hbl⟩ := hrel
      clear HO1 HB1
      have HOWN : Hid (wr.ownsRow w.heap.size 5 1 u4 (keptL s k).length ((keptL s k).map byteV)) := hown
      have HB : Hid (Below w.heap.size w wr) := hbl
      have HNN : Hid (u4 ≠ .slice none 0 0) := hnn
      have hsz := hbl.size
      by_cases hlt : k < s.size
      · have hone := header_any (s.extract k (k + 1)) wr (by have : (s.extract k (k + 1)).size ≤ s.size := by simp; omega
                                                             unfold maxLen; omega)
        rw [okL_one s k hlt] at hone
        have hkl := keptL_le s k
        have hks := keptL_step s k hlt
        have hts := take_snoc s k hlt
        have HKS : Hid (keptL s (k + 1) = keptL s k ++ (if okC s[k].toNat = true then [s[k]] else [])) := hks
        have HTS : Hid (okL (s.data.toList.take (k + 1)) = (okL (s.data.toList.take k) && okC s[k].toNat)) := by
          show _ = _
          rw [hts, okL_append]; simp [okL]
        obtain ⟨q, hq⟩ : ∃ q, q = okL (s.data.toList.take k) := ⟨_, rfl⟩
        rw [← hq]
        have HQ : Hid (q = okL (s.data.toList.take k)) := hq
        clear hown hbl hnn hks hts hq
        cases hc : okC s[k].toNat with
        | true =>
          rw [hc] at hone
          have HC : Hid (okC s[k].toNat = true) := hc
          clear hc
          go_wp2_with (first | (go_at_call 6; refine hone.mono ?_; rintro e w' ⟨rfl, hw⟩; subst w') | (at_builtin; refine wpList_append_own_at _ rfl (.tmp 27) (.tmp 31) 23 rfl w.heap.size 5 i0 (.int .u8 0) 1 1 Try.underlying23 hi0 hz0 hz1 hz2 rfl (by decide) u4 (keptL s k).length ((keptL s k).map byteV) rfl (HOWN.out.alloc _) ⟨wr.heap.size, 0, none⟩ 1 1 [byteV s[k]] rfl rfl (cell_one_new _ _ _) (by simp [byteV, Value.oneCell']) (by have := HBND.out; unfold maxLen; omega) (by have := HBND.out; omega) (by simp; omega) ?_; intro v' w2 hown' hgrow hnil hat))
          go_roundw
          case rel =>
            refine ⟨k + 1, by omega, by go_num, ?_, ?_, ?_, ?_⟩
            · rw [HTS.out, HC.out, ← HQ.out, Bool.and_true]
            · intro e; exact HNN.out (hnil.1 e).1
            · rw [HKS.out, if_pos HC.out]
              simpa using hown'
            · exact Below.grown (HB.out.alloc hsz _) hgrow (by simp; omega) (fun k hk => (HOWN.out.lt k hk).1)
          case measure => simp [intOf]; omega
        | false =>
          rw [hc] at hone
          have HC : Hid (okC s[k].toNat = false) := hc
          clear hc
          go_wp2_with (first | (go_at_call 6; refine hone.mono ?_; rintro e w' ⟨rfl, hw⟩; subst w'))
          go_roundw
          case rel =>
            refine ⟨k + 1, by omega, by go_num, ?_, HNN.out, ?_, HB.out⟩
            · rw [HTS.out, HC.out, Bool.and_false]
            · rw [HKS.out, if_neg (by rw [HC.out]; decide), List.append_nil]
              exact HOWN.out
          case measure => simp [intOf]; omega
      · obtain ⟨g, cap, hvk⟩ := own_some hown hnn
        subst hvk
        have hkn : s.data.toList.take k = s.data.toList := List.take_of_length_le (by simp; omega)
        rw [hkn]
        have hconv := run_convert_bytes_back (P := Try.prog) wr 23 9 5 ⟨g, 0, none⟩ cap (keptL s k) Try.underlying23 Try.underlying5 Try.underlying9 (fun j hj => by
          have := hown.cells (g := g) rfl j (byteV (keptL s k)[j]) (by simp [hj])
          exact this)
        have hkeep := header_any ⟨(keptL s k).toArray⟩ wr (by have := keptL_le s k; have := HBND.out; show (keptL s k).toArray.size ≤ maxLen; unfold maxLen; simp; omega)
        rw [show okL (ByteArray.mk (keptL s k).toArray).data.toList = true from by simpa using keptL_ok s k] at hkeep
        have hall := HH.out wr
        obtain ⟨q, hq⟩ : ∃ q, q = okL s.data.toList := ⟨_, rfl⟩
        rw [← hq] at hall
        rw [← hq]
        clear hown hbl hnn hkn hq
        cases q with
        | true =>
          go_wp2_with fail
          refine hall.mono ?_
          rintro e w' ⟨rfl, hw⟩
          subst w'
          go_wp2_with fail
          refine hkeep.mono ?_
          rintro e w' ⟨rfl, hw⟩
          subst w'
          go_wp2_with fail
          go_ret
          exact ⟨rfl, HB.out⟩
        | false =>
          go_wp2_with fail
          refine hall.mono ?_
          rintro e w' ⟨rfl, hw⟩
          subst w'
          go_wp2_with fail
          refine hkeep.mono ?_
          rintro e w' ⟨rfl, hw⟩
          subst w'
          go_wp2_with fail
          go_ret
          exact ⟨rfl, HB.out⟩

end Go.Proofs.Qxb6627688a
