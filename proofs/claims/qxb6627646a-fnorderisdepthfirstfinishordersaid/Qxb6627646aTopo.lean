import Derived.Test.Qxb6627646aDfs
import Derived.Test.Qxb6627646aOrder
namespace Go.Proofs.Qxb6627646a
open Go.RowKit Go.Deep
set_option linter.unusedVariables false

/-- The places when the first k of l have been met. -/
def posV (l : List Nat) (k : Nat) : Nat → Value := fun x => .int .i64 ((if x ∈ l.take k then l.idxOf x else 0 : Nat) : Int)

theorem posV_step {l : List Nat} (hnd : l.Nodup) {k j : Nat} (hk : k < l.length) (hj : l[k] = j) (x : Nat) : (if x = j then Value.int .i64 (k : Int) else posV l k x) = posV l (k + 1) x := by
  unfold posV
  rw [List.take_succ_eq_append_getElem hk, hj]
  by_cases e : x = j
  · subst e
    have hi : l.idxOf x = k := by rw [← hj]; exact hnd.idxOf_getElem k hk
    rw [if_pos rfl, if_pos (by simp), hi]
  · rw [if_neg e]
    by_cases hm : x ∈ l.take k
    · rw [if_pos hm, if_pos (by simp [hm])]
    · rw [if_neg hm, if_neg (by simp [hm, e])]

theorem posV_all {l : List Nat} {x : Nat} (hx : x ∈ l) : posV l l.length x = .int .i64 (l.idxOf x : Int) := by
  unfold posV
  rw [List.take_of_length_le (Nat.le_refl _), if_pos hx]

theorem topL_idx {g : Nat → List Nat} {l : List Nat} (ht : TopL g l) (hnd : l.Nodup) {i j : Nat} (hi : i ∈ l) (hj : j ∈ g i) : j ∈ l ∧ l.idxOf j < l.idxOf i := by
  have hlt := List.idxOf_lt_length_iff.2 hi
  have hget : l[l.idxOf i]? = some i := by rw [List.getElem?_eq_getElem hlt, List.getElem_idxOf hlt]
  have hjm := ht _ i hget j hj
  obtain ⟨q, hq, e⟩ := List.mem_take_iff_getElem.1 hjm
  have hqj : l.idxOf j = q := by rw [← e]; exact hnd.idxOf_getElem q _
  exact ⟨List.mem_of_mem_take hjm, by omega⟩

set_option maxHeartbeats 1000000 in
set_option maxRecDepth 100000 in
theorem topological_any (v u : Value) (l : List Nat) (xss : List (List Int)) (n : Nat) (w : World) (hn : n ≤ 65536) (hx : xss.length = n) (hr : rowsInRange (n : Int) xss = true) (hll : ∀ k, (xss.getD k []).length ≤ maxLen)
    (hv : IntRow w w.heap.size v (ints l)) (hd : IntRows w w.heap.size u xss) (hp : PermOK (ints l) n) (hnd : l.Nodup) (hall : ∀ j, j < n → j ∈ l) (htop : TopL (graphOf xss) l) :
    Calls Try.prog 11 #[v, u] w fun e w' => e = .returned (.bool true) ∧ Below w.heap.size w w' := by
  have HR : Hid (rowsInRange (n : Int) xss = true) := hr
  have HLL : Hid (∀ k, (xss.getD k []).length ≤ maxLen) := hll
  have HND : Hid l.Nodup := hnd
  have HALL : Hid (∀ j, j < n → j ∈ l) := hall
  have HTOP : Hid (TopL (graphOf xss) l) := htop
  have hln : l.length = n := by have := hp.1; rwa [ints, List.length_map] at this
  have HLN : Hid (l.length = n) := hln
  have hlt : ∀ x ∈ l, x < n := fun x hxl => by
    have := hp.2.2 (Int.ofNat x) (List.mem_map.2 ⟨x, hxl, rfl⟩)
    have h2 : (Int.ofNat x : Int) = (x : Int) := rfl
    rw [h2] at this
    omega
  have HLT : Hid (∀ x ∈ l, x < n) := hlt
  have hperm := permutation_any v (ints l) n w hv hn hp
  obtain ⟨ao, cap, hv', hcv⟩ := hv
  obtain ⟨uo, ucap, hu', hcu⟩ := hd
  have hil : (ints l).length = n := hp.1
  rw [hil] at hv' hcv
  subst hv'
  subst hu'
  rw [hx] at hcu ⊢
  have HCV : Hid (∀ k, k < n → ∃ b off, ao = some ⟨b, off, none⟩ ∧ b < w.heap.size ∧ w.cell? ⟨b, off + k, none⟩ = some (.int .i64 ((ints l).getD k 0))) := hcv
  have HCU : Hid (∀ k, k < n → ∃ b off u, uo = some ⟨b, off, none⟩ ∧ b < w.heap.size ∧ w.cell? ⟨b, off + k, none⟩ = some u ∧ IntRow w w.heap.size u (xss.getD k [])) := hcu
  have hmk := run_make_row' (P := Try.prog) 29 3 (.int .i64 0) 8 Try.underlying29 Try.info3 rfl .i64 .i64 n (by omega) (by omega)
  clear hr hll hnd hall htop hln hlt hp hil hcv hcu hx
  go_enter Try.func11, Try.ntmps11
  go_wp2_with (go_at_call 13; refine hperm.mono ?_; rintro e w1 ⟨rfl, hb1⟩)
  have HB1 : Hid (Below w.heap.size w w1) := hb1
  have hs1 := hb1.size
  clear hperm hmk hb1
  go_loopw [7] (fun c wr => ∃ k : Nat, k ≤ n ∧ c = .int .i64 k ∧ wr.rowIs w1.heap.size 3 n (posV l k) ∧ Below w1.heap.size w1 wr) (fun c _ => n - (intOf c).toNat)
  case atStart => exact ⟨0, Nat.zero_le _, rfl, (World.rowIs_made w1 _ n 3).congr (fun j _ => by simp [posV]), (Below.refl _ _).alloc (Nat.le_refl _) _⟩
  case round =>
    obtain ⟨k, hk, rfl, hrow, hb⟩ := hrel
    have HROW : Hid (wr.rowIs w1.heap.size 3 n (posV l k)) := hrow
    have HB : Hid (Below w1.heap.size w1 wr) := hb
    by_cases hlk : k < n
    · obtain ⟨b, off, hao, hbB, hcell⟩ := HCV.out k hlk
      subst hao
      have hkl : k < l.length := by rw [HLN.out]; exact hlk
      obtain ⟨j, hj⟩ : ∃ j, l[k] = j := ⟨_, rfl⟩
      have hjn : j < n := HLT.out j (by rw [← hj]; exact List.getElem_mem hkl)
      have hcj : wr.cell? ⟨b, off + k, none⟩ = some (.int .i64 (j : Int)) := by
        rw [hb.cell (p := ⟨b, off + k, none⟩) (by show b < w1.heap.size; omega), HB1.out.cell (p := ⟨b, off + k, none⟩) hbB, hcell, ← hj]
        simp [ints, List.getD, hkl]
      have cp := hrow.cell hjn
      have fp := hrow.frozen j
      have HJ : Hid (∀ x, (if x = j then Value.int .i64 (k : Int) else posV l k x) = posV l (k + 1) x) := fun x => posV_step HND.out hkl hj x
      have hjn' : (j : Int) < (n : Int) := by omega
      clear hrow hb hcell hkl hj
      go_wp2
      go_roundw
      case rel => exact ⟨k + 1, by omega, by go_num, (HROW.out.set j _).congr (fun x _ => HJ.out x), HB.out.setCell (Nat.le_refl _) _⟩
      case measure => simp [intOf]; omega
    · have hkn : k = n := by omega
      subst hkn
      clear hrow hb
      go_wp2
      go_loopw [8] (fun c wr => ∃ i : Nat, i ≤ k ∧ c = .int .i64 i ∧ wr.rowIs w1.heap.size 3 k (posV l k) ∧ Below w1.heap.size w1 wr) (fun c _ => k - (intOf c).toNat)
      case atStart => exact ⟨0, Nat.zero_le _, rfl, HROW.out, HB.out⟩
      case round =>
        obtain ⟨i, hi, rfl, hrow, hb⟩ := hrel
        clear HROW HB
        have HROW : Hid (wr.rowIs w1.heap.size 3 k (posV l k)) := hrow
        have HB : Hid (Below w1.heap.size w1 wr) := hb
        by_cases hli : i < k
        · obtain ⟨b, off, u, huo, hbB, hcu, ro, rcap, hus, hur⟩ := HCU.out i hli
          subst huo
          subst hus
          have hcu' : wr.cell? ⟨b, off + i, none⟩ = some (.slice ro (xss.getD i []).length rcap) := (hb.cell (p := ⟨b, off + i, none⟩) (by show b < w1.heap.size; omega)).trans ((HB1.out.cell (p := ⟨b, off + i, none⟩) hbB).trans hcu)
          have HUR : Hid (∀ k, k < (xss.getD i []).length → ∃ b off, ro = some ⟨b, off, none⟩ ∧ b < w.heap.size ∧ w.cell? ⟨b, off + k, none⟩ = some (.int .i64 ((xss.getD i []).getD k 0))) := hur
          have hml := HLL.out i
          unfold maxLen at hml
          obtain ⟨L, hL⟩ : ∃ L, L = (xss.getD i []).length := ⟨_, rfl⟩
          rw [← hL] at hcu' hml
          have HL : Hid (L = (xss.getD i []).length) := hL
          clear hrow hb hcu hur hL
          go_wp2
          go_loopw [10] (fun c wr => ∃ m : Nat, m ≤ L ∧ c = .int .i64 m ∧ wr.rowIs w1.heap.size 3 k (posV l k) ∧ Below w1.heap.size w1 wr) (fun c _ => L - (intOf c).toNat)
          case atStart => exact ⟨0, Nat.zero_le _, rfl, HROW.out, HB.out⟩
          case round =>
            obtain ⟨m, hm, rfl, hrow, hb⟩ := hrel
            clear HROW HB hcu'
            have HROW : Hid (wr.rowIs w1.heap.size 3 k (posV l k)) := hrow
            have HB : Hid (Below w1.heap.size w1 wr) := hb
            by_cases hlm : m < L
            · obtain ⟨b', off', hro, hbB', hcell⟩ := HUR.out m (by rw [← HL.out]; exact hlm)
              subst hro
              obtain ⟨j, hjn, hjx, hkg, hgj⟩ := graph_row HR.out (i := i) (k := m) (by rw [← HL.out]; exact hlm)
              have hcj : wr.cell? ⟨b', off' + m, none⟩ = some (.int .i64 (j : Int)) := by
                rw [hb.cell (p := ⟨b', off' + m, none⟩) (by show b' < w1.heap.size; omega), HB1.out.cell (p := ⟨b', off' + m, none⟩) hbB', hcell, hjx]
              have hti := topL_idx HTOP.out HND.out (HALL.out i hli) (j := j) (by rw [← hgj]; exact List.getElem_mem hkg)
              have cj := hrow.cell hjn
              have ci := hrow.cell hli
              have hlk2 : posV l k = posV l l.length := by rw [HLN.out]
              rw [hlk2, posV_all hti.1] at cj
              rw [hlk2, posV_all (HALL.out i hli)] at ci
              obtain ⟨x, hx⟩ : ∃ x, x = l.idxOf j := ⟨_, rfl⟩
              obtain ⟨y, hy⟩ : ∃ y, y = l.idxOf i := ⟨_, rfl⟩
              have hxy := hti.2
              rw [← hx] at cj hxy
              rw [← hy] at ci hxy
              have hjn' : (j : Int) < (k : Int) := by omega
              have hli' : (i : Int) < (k : Int) := by omega
              have hlm' : (m : Int) < (L : Int) := by omega
              have hxy' : ¬ ((y : Int) ≤ (x : Int)) := by omega
              clear hrow hb hcell hjx hkg hgj hti hlk2 hx hy
              go_upto_region 16 with fail
              go_region
              go_wp2
              go_roundw
              case rel => exact ⟨m + 1, by omega, by go_num, HROW.out.drew, HB.out.drew⟩
              case measure => simp [intOf]; omega
            · clear hrow hb
              go_wp2
              go_roundw
              case rel => exact ⟨i + 1, by omega, by go_num, HROW.out, HB.out⟩
              case measure => simp [intOf]; omega
        · clear hrow hb
          go_wp2
          go_ret
          exact ⟨rfl, HB1.out.trans (HB.out.mono hs1)⟩

end Go.Proofs.Qxb6627646a
