/-
  The first law's function, its long way.
-/
import Derived.Test.Qxb6627713aLaw5
namespace Go.Proofs.Qxb6627713a
open Go.RowKit
set_option linter.unusedVariables false

theorem made_size (z : Value) (n : Nat) : (madeCells #[z] n).size = n := by
  exact size_madeCells _ _

set_option maxHeartbeats 2000000 in
theorem law5 (b off n cap : Nat) (f : Nat → Nat) (w : World) (hn : n ≤ 4096) (h0 : 0 < n) (hcs : ∀ j, j < n → w.cell? ⟨b, off + j, none⟩ = some (.float .f64 (f j))) (hb : b < w.heap.size) :
    Calls Try.prog 3 #[.slice (some ⟨b, off, none⟩) n cap] w fun e w' => e = .returned (.bool true) ∧ Hid (Below w.heap.size w w') := by
  have hB := bytes5 (some ⟨b, off, none⟩) n cap
  rw [decide_eq_true (by omega)] at hB
  have hmk := fun W : World => run_make_row' (P := Try.prog) 22 24 (.float .f64 0) 8 Try.underlying22 info24 rfl .i64 .i64 n (by omega) (by omega) W
  have hz1 : ¬ (4096 : Int) < (n : Int) := by omega
  have hz2 : ((n : Int) == 0) = false := beq_false_of_ne (by omega)
  have hz3 : ¬ ((n : Int) = 0) := by omega
  obtain ⟨cs, hcsd⟩ : ∃ cs, cs = (upto f n).map (Value.float .f64) := ⟨_, rfl⟩
  have hcl : cs.length = n := by rw [hcsd]; simp [upto_length]
  obtain ⟨L, hLd⟩ : ∃ L, L = (madeCells #[Value.float .f64 0] n).toList := ⟨_, rfl⟩
  have hLl : L.length = n := by rw [hLd]; simp [made_size]
  have hLa : madeCells #[Value.float .f64 0] n = L.toArray := by rw [hLd]
  have HCS : Hid (∀ j v, cs[j]? = some v → (w.alloc (.cells L.toArray 24)).cell? (Addr.add ⟨b, off, none⟩ j) = some v) := by
    intro j v hv
    have hj : j < n := by
      rw [← hcl]
      exact (List.getElem?_eq_some_iff.1 hv).1
    have h1 := ((Below.refl w.heap.size w).alloc (Nat.le_refl _) (.cells L.toArray 24)).cell (p := ⟨b, off + j, none⟩) hb
    have ha : Addr.add ⟨b, off, none⟩ j = ⟨b, off + j, none⟩ := by
      unfold Addr.add
      split
      · rename_i h; rw [h]; rfl
      · rfl
    rw [ha, h1, hcs j hj, ← hv, hcsd]
    simp [upto, hj]
  have HG : Hid ((w.alloc (.cells L.toArray 24)).heap[w.heap.size]? = some (.cells L.toArray 24 (0, 0))) := World.alloc_heap_new w _
  have HB : Hid (Below w.heap.size w (w.alloc (.cells L.toArray 24))) := (Below.refl _ w).alloc (Nat.le_refl _) _
  have HD : Hid (cs = (upto f n).map (Value.float .f64)) := hcsd
  have HL : Hid (L.length = n) := hLl
  have HC : Hid (cs.length = n) := hcl
  have H1 : Hid (∀ v ∈ cs, v.oneCell' = true) := fun v hv => by
    rw [hcsd] at hv
    obtain ⟨x, _, rfl⟩ := List.mem_map.1 hv
    rfl
  have HMN : Hid (cs.length = Nat.min n n) := by show _ = _; rw [hcl]; exact (Nat.min_self n).symm
  have HFT : Hid (0 + cs.length ≤ L.length) := by show _ ≤ _; omega
  rw [hLa] at hmk
  have hcp := run_copy_row (P := Try.prog) (w.alloc (.cells L.toArray 24)) 22 22 3 24 w.heap.size 0 n n ⟨b, off, none⟩ n cap L.toArray 24 cs Try.underlying22 info24s HG.out HMN.out HCS.out (by simpa using HFT.out) H1.out
  obtain ⟨w2, hw2⟩ : ∃ w2, w2 = (w.alloc (.cells L.toArray 24)).setRow w.heap.size (L.toArray.toList.take 0 ++ cs ++ L.toArray.toList.drop (0 + cs.length)).toArray := ⟨_, rfl⟩
  rw [← hw2, hcl] at hcp
  have HB2 : Hid (Below w.heap.size w w2) := by rw [hw2]; exact below_setRow HB.out (Nat.le_refl _) _
  have hG2 : w2.heap[w.heap.size]? = some (.cells cs.toArray 24 (0, 0)) := by
    rw [hw2]
    have e : L.toArray.toList.take 0 ++ cs ++ L.toArray.toList.drop (0 + cs.length) = cs := by
      rw [hcl]
      simp [hLl]
    rw [e]
    exact setRow_heap _ _ _ _ _ _ HG.out
  have hlt2 : w.heap.size < w2.heap.size := (Array.getElem?_eq_some_iff.1 hG2).1
  have HC2 : Hid (∀ j, j < n → w2.cell? ⟨w.heap.size, 0 + j, none⟩ = some (.float .f64 (f j))) := by
    intro j hj
    rw [hcsd] at hG2
    simp [World.cell?, hG2, upto, hj]
  clear hcs hcsd hLl hcl hLd hLa hw2 hG2 HCS HG HB HD HL HC H1 HMN HFT
  go_enter Try.func3, Try.ntmps3
  go_upto_region 11 with (first | (go_at_call 5; refine (hB _).mono ?_; rintro e w' ⟨rfl, hw⟩; subst w'))
  have c1 := zzmedian w.heap.size 0 n n f hn h0 w2 hlt2 HC2.out
  clear hcp hmk hB
  go_upto_region 12 with (first | (go_at_call 6; refine c1.mono ?_; rintro e w3 ⟨r, rfl, hm1, hb1⟩))
  have HM1 : Hid (Med (upto f n) r) := hm1
  have HB1 : Hid (Below w2.heap.size w2 w3) := hb1
  have c2 := model w.heap.size 0 n n f hn h0 w3 (fun j hj => (hb1.cell (p := ⟨w.heap.size, 0 + j, none⟩) hlt2).trans (HC2.out j hj))
  clear c1 hm1 hb1
  go_wp2_with (first | (go_at_call 8; refine c2.mono ?_; rintro e w4 ⟨s, rfl, hm2, hb2⟩; have c3 := sameFloat r s w4; rw [med_same HM1.out hm2] at c3; have HB4 : Hid (Below w.heap.size w w4) := ((HB2.out.trans (HB1.out.mono (Nat.le_of_lt hlt2))).trans (hb2.mono (Nat.le_trans (Nat.le_of_lt hlt2) HB1.out.size))); clear hm2 hb2) | (go_at_call 7; refine c3.mono ?_; rintro e w5 ⟨rfl, hw5⟩; subst w5))
  go_ret
  exact ⟨rfl, HB4⟩
end Go.Proofs.Qxb6627713a
