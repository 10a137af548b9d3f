import Derived.Test.Qxb6627646aKahn
import Derived.Test.Qxb6627646aScc
import Derived.Test.Qxb6627646aSize
namespace Go.Proofs.Qxb6627646a
open Go.RowKit Go.Deep
set_option linter.unusedVariables false

/-- The counts, one place to the right, when the edges E have been met. -/
def cntV (E : List (Nat × Nat)) : Nat → Value := fun x => .int .i64 ((if x = 0 then 0 else (srcs E (x - 1)).length : Nat) : Int)
/-- .. when they have been added up as far as j. -/
def sumV (E : List (Nat × Nat)) (j : Nat) : Nat → Value := fun x => .int .i64 ((if x ≤ j then cb E x else (srcs E (x - 1)).length : Nat) : Int)

theorem cntV_nil (x : Nat) : cntV [] x = .int .i64 0 := by simp [cntV, srcs]
theorem cntV_succ (E : List (Nat × Nat)) (j : Nat) : cntV E (j + 1) = .int .i64 ((srcs E j).length : Int) := by simp [cntV]
theorem cntV_step (E : List (Nat × Nat)) (i j x : Nat) : (if x = j + 1 then Value.int .i64 (((srcs E j).length : Int) + 1) else cntV E x) = cntV (E ++ [(i, j)]) x := by
  unfold cntV
  by_cases h : x = j + 1
  · subst h
    simp [srcs_append, srcs_one]
  · rw [if_neg h]
    by_cases h0 : x = 0
    · simp [h0]
    · have hne : ¬ j = x - 1 := by omega
      simp [h0, srcs_append, srcs_one, hne]
theorem sumV_start (E : List (Nat × Nat)) (x : Nat) : cntV E x = sumV E 0 x := by
  unfold cntV sumV
  by_cases h : x = 0
  · simp [h, cb_zero]
  · have : ¬ x ≤ 0 := by omega
    simp [h]
theorem sumV_step (E : List (Nat × Nat)) (j x : Nat) : (if x = j + 1 then Value.int .i64 (((srcs E j).length : Int) + (cb E j : Int)) else sumV E j x) = sumV E (j + 1) x := by
  unfold sumV
  by_cases h : x = j + 1
  · subst h
    have hs := cb_succ j E
    simp only [if_true, Nat.le_refl, hs]
    congr 1
    omega
  · rw [if_neg h]
    by_cases h1 : x ≤ j
    · rw [if_pos h1, if_pos (by omega)]
    · rw [if_neg h1, if_neg (by omega)]
theorem sumV_at (E : List (Nat × Nat)) (j x : Nat) (h : x ≤ j) : sumV E j x = .int .i64 (cb E x : Int) := by simp [sumV, h]
theorem sumV_next (E : List (Nat × Nat)) (j : Nat) : sumV E j (j + 1) = .int .i64 ((srcs E j).length : Int) := by
  unfold sumV
  rw [if_neg (by omega), Nat.add_sub_cancel]

theorem rowsE_len (xss : List (List Int)) : ∀ i, i ≤ xss.length → (rowsE (graphOf xss) i).length = total (xss.take i)
  | 0, _ => by simp [rowsE, total]
  | i + 1, h => by
    rw [rowsE, List.length_append, rowsE_len xss i (by omega), total_take_succ xss i (by omega)]
    simp [graphOf]

theorem partE_len {g : Nat → List Nat} {n i k : Nat} (hi : i < n) (x : Nat) : (srcs (partE g i k) x).length ≤ (srcs (rowsE g n) x).length := by
  obtain ⟨R, h⟩ := partE_prefix g n i k hi
  rw [h, srcs_append, List.length_append]; omega
theorem srcs_le (E : List (Nat × Nat)) (x : Nat) : (srcs E x).length ≤ E.length := by
  unfold srcs
  rw [List.length_map]
  exact List.length_filter_le _ _

/-- The next free place of each target when the edges E are laid. -/
def fillV (E0 E : List (Nat × Nat)) : Nat → Value := fun x => .int .i64 (((cb E0 x + (srcs E x).length : Nat)) : Int)
theorem fillV_step (E0 E : List (Nat × Nat)) (i j x : Nat) : (if x = j then Value.int .i64 (((cb E0 j + (srcs E j).length : Nat) : Int) + 1) else fillV E0 E x) = fillV E0 (E ++ [(i, j)]) x := by
  unfold fillV
  by_cases h : x = j
  · subst h
    rw [if_pos rfl, srcs_append, srcs_one, if_pos rfl]
    simp
    omega
  · rw [if_neg h, srcs_append, srcs_one, if_neg (fun e => h e.symm), List.append_nil]

/-- The counts added up; the sources being laid. -/
structure Lay (N n tot : Nat) (E0 E : List (Nat × Nat)) (w wr : World) : Prop where
  cnt : wr.rowIs N 3 (n + 1) (fun x => .int .i64 (cb E0 x : Int))
  rev : ∃ R : Nat → Int, wr.rowIs (N + 1) 3 tot (fun p => .int .i64 (R p)) ∧ RevOK E0 E R
  fill : wr.rowIs (N + 2) 3 n (fillV E0 E)
  below : Below N w wr
  size : wr.heap.size = N + 3

theorem Lay.step {N n tot : Nat} {E0 E : List (Nat × Nat)} {w wr : World} (h : Lay N n tot E0 E w wr) {i j q : Nat} (hq : q = cb E0 j + (srcs E j).length) (hpre : ∃ F, E0 = (E ++ [(i, j)]) ++ F) :
    Lay N n tot E0 (E ++ [(i, j)]) w ((wr.setCell ⟨N + 1, q, none⟩ (.int .i64 (i : Int))).setCell ⟨N + 2, j, none⟩ (.int .i64 ((q : Int) + 1))) := by
  obtain ⟨R, hR, hok⟩ := h.rev
  subst hq
  refine ⟨(h.cnt.setOther (by show N ≠ N + 1; omega) _).setOther (by show N ≠ N + 2; omega) _, ⟨upd R (cb E0 j + (srcs E j).length) (i : Int), ?_, revOK_step hok hpre⟩, ?_, (h.below.setCell (by show N ≤ N + 1; omega) _).setCell (by show N ≤ N + 2; omega) _, by rw [set_size, set_size]; exact h.size⟩
  · refine ((hR.set _ _).setOther (by show N + 1 ≠ N + 2; omega) _).congr (fun x _ => ?_)
    by_cases e : x = cb E0 j + (srcs E j).length
    · simp only [e, if_true, upd_same]
    · simp only [e, if_false, upd_other _ _ _ _ e]
  · refine ((h.fill.setOther (by show N + 2 ≠ N + 1; omega) _).set j _).congr (fun x _ => ?_)
    exact fillV_step E0 E i j x

/-- The counts added up; the first m of them copied. -/
structure Cpy (N n tot m : Nat) (E0 : List (Nat × Nat)) (w wr : World) : Prop where
  cnt : wr.rowIs N 3 (n + 1) (fun x => .int .i64 (cb E0 x : Int))
  rev : wr.rowIs (N + 1) 3 tot (fun _ => .int .i64 0)
  fill : wr.rowIs (N + 2) 3 n (fun x => .int .i64 ((if x < m then cb E0 x else 0 : Nat) : Int))
  below : Below N w wr
  size : wr.heap.size = N + 3

theorem cpy_start {N n tot : Nat} {E0 : List (Nat × Nat)} {w wr : World} (hrow : wr.rowIs N 3 (n + 1) (sumV E0 n)) (hb : Below N w wr) (hs : wr.heap.size = N + 1) :
    Cpy N n tot 0 E0 w ((wr.alloc (.cells (madeCells #[.int .i64 0] tot) 3)).alloc (.cells (madeCells #[.int .i64 0] n) 3)) := by
  have h1 := World.rowIs_made wr (.int .i64 0) tot 3
  have h2 := World.rowIs_made (wr.alloc (.cells (madeCells #[.int .i64 0] tot) 3)) (.int .i64 0) n 3
  have hs2 : (wr.alloc (.cells (madeCells #[.int .i64 0] tot) 3)).heap.size = N + 2 := by simp; omega
  rw [hs] at h1
  rw [hs2] at h2
  refine ⟨((hrow.congr (fun x hx => sumV_at E0 n x (by omega))).alloc _).alloc _, h1.alloc _, h2.congr (fun x _ => by simp), (hb.alloc (by omega) _).alloc (by omega) _, by simp; omega⟩

theorem Cpy.step {N n tot m : Nat} {E0 : List (Nat × Nat)} {w wr : World} (h : Cpy N n tot m E0 w wr) : Cpy N n tot (m + 1) E0 w (wr.setCell ⟨N + 2, m, none⟩ (.int .i64 (cb E0 m : Int))) := by
  refine ⟨h.cnt.setOther (by show N ≠ N + 2; omega) _, h.rev.setOther (by show N + 1 ≠ N + 2; omega) _, (h.fill.set m _).congr (fun x _ => ?_), h.below.setCell (by show N ≤ N + 2; omega) _, by rw [set_size]; exact h.size⟩
  by_cases e : x = m
  · simp [e]
  · by_cases h1 : x < m
    · simp [e, h1, show x < m + 1 by omega]
    · simp [e, h1, show ¬ x < m + 1 by omega]

theorem Cpy.done {N n tot : Nat} {E0 : List (Nat × Nat)} {w wr : World} (h : Cpy N n tot n E0 w wr) : Lay N n tot E0 [] w wr :=
  ⟨h.cnt, ⟨fun _ => 0, h.rev, revOK_nil _ _⟩, h.fill.congr (fun x hx => by simp [fillV, hx, srcs]), h.below, h.size⟩

/-- The peeling, in memory. -/
structure Kq (N n tot : Nat) (E0 : List (Nat × Nat)) (R : Nat → Int) (rem : Nat → Int) (vq : Value) (Q : List Nat) (w wr : World) : Prop where
  cnt : wr.rowIs N 3 (n + 1) (fun x => .int .i64 (cb E0 x : Int))
  rev : wr.rowIs (N + 1) 3 tot (fun p => .int .i64 (R p))
  rem : wr.rowIs (N + 3) 3 n (fun x => .int .i64 (rem x))
  q : wr.ownsRow (N + 4) 3 1 vq Q.length (Q.map natV)
  size : N + 4 ≤ wr.heap.size
  below : Below N w wr

theorem kq_start {N n tot : Nat} {E0 E : List (Nat × Nat)} {R : Nat → Int} {w wr w1 : World} {c : Array Value} (h : Lay N n tot E0 E w wr) (hR : wr.rowIs (N + 1) 3 tot (fun p => .int .i64 (R p)))
    (hc : c = madeCells #[.int .i64 0] n) {vq : Value} (hown : w1.ownsRow (N + 4) 3 1 vq 0 []) (hg : (wr.alloc (.cells c 3)).grownBy w1 none) : Kq N n tot E0 R (fun _ => 0) vq [] w w1 := by
  subst hc
  have h3 := World.rowIs_made wr (.int .i64 0) n 3
  rw [h.size] at h3
  have hs : (wr.alloc (.cells (madeCells #[.int .i64 0] n) 3)).heap.size = N + 4 := by simp; have := h.size; omega
  have hs1 := hg.size
  have hk : ∀ b, b < N + 4 → w1.heap[b]? = (wr.alloc (.cells (madeCells #[.int .i64 0] n) 3)).heap[b]? := fun b hb => hg.block b (by omega) (by simp)
  refine ⟨(h.cnt.alloc _).of_block (hk _ (by omega)), (hR.alloc _).of_block (hk _ (by omega)), h3.of_block (hk _ (by omega)), hown, by omega, Below.grown (h.below.alloc (by have := h.size; omega) _) hg (by omega) (fun k hk => by cases hk)⟩

section
variable {N n tot : Nat} {E0 : List (Nat × Nat)} {R rem : Nat → Int} {vq : Value} {Q : List Nat} {w wr : World}

theorem Kq.setRem (h : Kq N n tot E0 R rem vq Q w wr) (i : Nat) (x : Int) : Kq N n tot E0 R (upd rem i x) vq Q w (wr.setCell ⟨N + 3, i, none⟩ (.int .i64 x)) := by
  refine ⟨h.cnt.setOther (by show N ≠ N + 3; omega) _, h.rev.setOther (by show N + 1 ≠ N + 3; omega) _, (h.rem.set i _).congr (fun y _ => ?_), own_keep h.q (fun b hb _ => blk_setCell_other _ _ _ _ (by show b ≠ N + 3; omega)), by rw [set_size]; exact h.size, h.below.setCell (by show N ≤ N + 3; omega) _⟩
  by_cases e : y = i
  · simp only [e, if_true, upd_same]
  · simp only [e, if_false, upd_other _ _ _ _ e]

theorem Kq.push (h : Kq N n tot E0 R rem vq Q w wr) (i : Nat) (o : Obj) {v' : Value} {w1 : World} (hown : w1.ownsRow (N + 4) 3 1 v' (Q.length + 1) (Q.map natV ++ [natV i])) (hg : (wr.alloc o).grownBy w1 vq.ownBlock) : Kq N n tot E0 R rem v' (Q ++ [i]) w w1 := by
  have hs := h.size
  have hs1 := hg.size
  have hsa : (wr.alloc o).heap.size = wr.heap.size + 1 := by simp
  have hk : ∀ b, b < N + 4 → w1.heap[b]? = wr.heap[b]? := fun b hb => by
    rw [hg.block b (by omega) (fun e => by have := (h.q.lt b e.symm).1; omega)]
    exact blk_alloc_lt wr o b (by omega)
  exact ⟨h.cnt.of_block (hk _ (by omega)), h.rev.of_block (hk _ (by omega)), h.rem.of_block (hk _ (by omega)), by simpa using hown, by omega,
    Below.grown (h.below.alloc (by omega) _) hg (by omega) (fun k hk => by have := (h.q.lt k hk).1; omega)⟩

theorem Kq.congr (h : Kq N n tot E0 R rem vq Q w wr) {rem' : Nat → Int} (e : ∀ x, x < n → rem x = rem' x) : Kq N n tot E0 R rem' vq Q w wr :=
  ⟨h.cnt, h.rev, h.rem.congr (fun x hx => by rw [e x hx]), h.q, h.size, h.below⟩
end

/-- What is left of each step's dependencies. -/
def remF (g : Nat → List Nat) (proc : List Nat) : Nat → Int := fun x => ((g x).length : Int) - (proc.count x : Int)
/-- .. when the first i steps have been looked at. -/
def remI (g : Nat → List Nat) (i : Nat) : Nat → Int := fun x => if x < i then ((g x).length : Int) else 0

theorem remI_step (g : Nat → List Nat) (i x : Nat) : upd (remI g i) i ((g i).length : Int) x = remI g (i + 1) x := by
  by_cases e : x = i
  · rw [e, upd_same]; simp [remI]
  · rw [upd_other _ _ _ _ e]
    unfold remI
    by_cases h : x < i
    · rw [if_pos h, if_pos (by omega)]
    · rw [if_neg h, if_neg (by omega)]

theorem own_at {w : World} {base g' cap : Nat} {Q : List Nat} {h j m : Nat} (hown : w.ownsRow base 3 1 (.slice (some ⟨g', 0, none⟩) m cap) Q.length (Q.map natV)) (hj : Q[h]? = some j) : w.cell? ⟨g', h, none⟩ = some (.int .i64 (j : Int)) := by
  have := hown.cells (g := g') rfl h (natV j) (by rw [List.getElem?_map, hj]; rfl)
  rw [Addr.add_lit, Nat.zero_add] at this
  exact this

theorem new_one {w : World} {a : Addr} {v x : Value} {t : TypeId} : ∀ j u, [x][j]? = some u → ((w.setCell a v).alloc (.cells #[x] t)).cell? ((⟨w.heap.size, 0, none⟩ : Addr).add j) = some u := by
  have h := cell_one_new (w.setCell a v) x t
  rw [set_size] at h
  exact h

/-- What zzAcyclic answers: a bool; where it is true there is a number that falls along every edge. -/
def AcEnd (g : Nat → List Nat) (n : Nat) (e : Ending) : Prop := ∃ r, e = .returned (.bool r) ∧ (r = true → ∃ rk : Nat → Nat, ∀ i, i < n → ∀ j ∈ g i, rk j < rk i)

set_option maxHeartbeats 1000000 in
set_option maxRecDepth 100000 in
theorem acyclic_any (v : Value) (xss : List (List Int)) (n : Nat) (w : World) (hn : n ≤ 65536) (hx : xss.length = n) (htot : total xss ≤ 131072) (hr : rowsInRange (n : Int) xss = true) (hll : ∀ k, (xss.getD k []).length ≤ maxLen) (hd : IntRows w w.heap.size v xss) :
    Calls Try.prog 7 #[v] w fun e w' => AcEnd (graphOf xss) n e ∧ Below w.heap.size w w' := by
  have hE0 : (rowsE (graphOf xss) n).length ≤ 131072 := by rw [rowsE_len xss n (by omega), List.take_of_length_le (by omega)]; exact htot
  have HG : Hid (∀ i, ∀ j ∈ graphOf xss i, j < n) := graph_lt hr
  have HR : Hid (rowsInRange (n : Int) xss = true) := hr
  have HX : Hid (xss.length = n) := hx
  have HLL : Hid (∀ k, (xss.getD k []).length ≤ maxLen) := hll
  obtain ⟨ao, cap, hv, hc⟩ := hd
  subst hv
  rw [hx] at hc ⊢
  have HC : Hid (∀ k, k < n → ∃ b off u, ao = some ⟨b, off, none⟩ ∧ b < w.heap.size ∧ w.cell? ⟨b, off + k, none⟩ = some u ∧ IntRow w w.heap.size u (xss.getD k [])) := hc
  have hmk1 : ∀ W : World, (Instr.makeSlice 29 (.int .i64 ((n : Int) + 1)) (.int .i64 ((n : Int) + 1))).run Try.prog W = .ok (.slice (some ⟨W.heap.size, 0, none⟩) (n + 1) (n + 1)) (W.alloc (.cells (madeCells #[.int .i64 0] (n + 1)) 3)) :=
    run_make_row' (P := Try.prog) 29 3 (.int .i64 0) 8 Try.underlying29 Try.info3 rfl .i64 .i64 (n + 1) (by omega) (by omega)
  clear hr hx htot hll hc
  go_enter Try.func7, Try.ntmps7
  go_wp2
  clear hmk1
  -- the counts
  go_loopw [5] (fun c wr => ∃ i : Nat, i ≤ n ∧ c = .int .i64 i ∧ wr.rowIs w.heap.size 3 (n + 1) (cntV (rowsE (graphOf xss) i)) ∧ Below w.heap.size w wr ∧ wr.heap.size = w.heap.size + 1) (fun c _ => n - (intOf c).toNat)
  case atStart => exact ⟨0, Nat.zero_le _, rfl, (World.rowIs_made w _ (n + 1) 3).congr (fun j _ => (cntV_nil j).symm), (Below.refl _ _).alloc (Nat.le_refl _) _, by simp⟩
  case round =>
    obtain ⟨i, hi, rfl, hrow, hb, hsz⟩ := hrel
    have HSZ : Hid (wr.heap.size = w.heap.size + 1) := hsz
    clear hsz
    by_cases hlt : i < n
    · obtain ⟨b, off, u, hao, hbB, hcu, uo, ucap, hus, hur⟩ := HC.out i hlt
      subst hao
      subst hus
      have hcu' := (hb.cell (p := ⟨b, off + i, none⟩) hbB).trans hcu
      have HUR : Hid (∀ k, k < (xss.getD i []).length → ∃ b off, uo = some ⟨b, off, none⟩ ∧ b < w.heap.size ∧ w.cell? ⟨b, off + k, none⟩ = some (.int .i64 ((xss.getD i []).getD k 0))) := hur
      have HROW : Hid (wr.rowIs w.heap.size 3 (n + 1) (cntV (rowsE (graphOf xss) i))) := hrow
      have HB : Hid (Below w.heap.size w wr) := hb
      have hml := HLL.out i
      unfold maxLen at hml
      obtain ⟨L, hL⟩ : ∃ L, L = (xss.getD i []).length := ⟨_, rfl⟩
      rw [← hL] at hcu' hml
      have HL : Hid (L = (xss.getD i []).length) := hL
      clear hrow hb hcu hur hL
      go_wp2
      go_loopw [7] (fun c wr => ∃ k : Nat, k ≤ L ∧ c = .int .i64 k ∧ wr.rowIs w.heap.size 3 (n + 1) (cntV (partE (graphOf xss) i k)) ∧ Below w.heap.size w wr ∧ wr.heap.size = w.heap.size + 1) (fun c _ => L - (intOf c).toNat)
      case atStart => exact ⟨0, Nat.zero_le _, rfl, by rw [partE_zero]; exact HROW.out, HB.out, HSZ.out⟩
      case round =>
        obtain ⟨k, hk, rfl, hrow, hb, hsz⟩ := hrel
        clear HSZ HROW HB hcu'
        have HSZ : Hid (wr.heap.size = w.heap.size + 1) := hsz
        have HROW : Hid (wr.rowIs w.heap.size 3 (n + 1) (cntV (partE (graphOf xss) i k))) := hrow
        have HB : Hid (Below w.heap.size w wr) := hb
        clear hsz
        by_cases hlk : k < L
        · obtain ⟨b', off', huo, hbB', hcell⟩ := HUR.out k (by rw [← HL.out]; exact hlk)
          subst huo
          obtain ⟨j, hjn, hjx, hkg, hgj⟩ := graph_row HR.out (i := i) (k := k) (by rw [← HL.out]; exact hlk)
          have hcj := (hb.cell (p := ⟨b', off' + k, none⟩) hbB').trans hcell
          rw [hjx] at hcj
          have ccnt := hrow.cell (i := j + 1) (by omega)
          have fcnt := hrow.frozen (j + 1)
          rw [cntV_succ] at ccnt
          have hpl := partE_len (g := graphOf xss) (n := n) (i := i) (k := k) hlt j
          have hsl := srcs_le (rowsE (graphOf xss) n) j
          have hsucc := partE_succ (graphOf xss) i k hkg
          rw [hgj] at hsucc
          have HSUCC : Hid (partE (graphOf xss) i (k + 1) = partE (graphOf xss) i k ++ [(i, j)]) := hsucc
          obtain ⟨q, hq⟩ : ∃ q, q = (srcs (partE (graphOf xss) i k) j).length := ⟨_, rfl⟩
          rw [← hq] at ccnt hpl
          have HQ : Hid (q = (srcs (partE (graphOf xss) i k) j).length) := hq
          have hjn' : (j : Int) < (n : Int) := by omega
          clear hrow hb hcell hjx hkg hgj hsucc hq
          go_wp2
          go_roundw
          case rel =>
            refine ⟨k + 1, by omega, by go_num, (HROW.out.set (j + 1) _).congr (fun x _ => ?_), HB.out.setCell (Nat.le_refl _) _, by rw [set_size]; exact HSZ.out⟩
            rw [HSUCC.out, ← cntV_step, HQ.out]
          case measure => simp [intOf]; omega
        · have hkL : k = L := by omega
          clear hrow hb
          go_wp2
          go_roundw
          case rel =>
            refine ⟨i + 1, by omega, by go_num, ?_, HB.out, HSZ.out⟩
            rw [← partE_all (graphOf xss) i k (by simp only [graphOf, List.length_map]; have := HL.out; omega)]
            exact HROW.out
          case measure => simp [intOf]; omega
    · have hin : i = n := by omega
      subst hin
      have HB : Hid (Below w.heap.size w wr) := hb
      have HROW : Hid (wr.rowIs w.heap.size 3 (i + 1) (cntV (rowsE (graphOf xss) i))) := hrow
      obtain ⟨E0, hE⟩ : ∃ E0, E0 = rowsE (graphOf xss) i := ⟨_, rfl⟩
      have HE : Hid (E0 = rowsE (graphOf xss) i) := hE
      rw [← hE] at hE0 HROW
      clear hrow hb hE
      go_wp2
      -- the counts are added up
      go_loopw [8] (fun c wr => ∃ j : Nat, j ≤ i ∧ c = .int .i64 j ∧ wr.rowIs w.heap.size 3 (i + 1) (sumV E0 j) ∧ Below w.heap.size w wr ∧ wr.heap.size = w.heap.size + 1) (fun c _ => i - (intOf c).toNat)
      case atStart => exact ⟨0, Nat.zero_le _, rfl, HROW.out.congr (fun x _ => sumV_start E0 x), HB.out, HSZ.out⟩
      case round =>
        obtain ⟨j, hj, rfl, hrow, hb, hsz⟩ := hrel
        clear HSZ HROW HB
        have HSZ : Hid (wr.heap.size = w.heap.size + 1) := hsz
        have HROW : Hid (wr.rowIs w.heap.size 3 (i + 1) (sumV E0 j)) := hrow
        have HB : Hid (Below w.heap.size w wr) := hb
        clear hsz
        by_cases hlj : j < i
        · have c1 := hrow.cell (i := j + 1) (by omega)
          have f1 := hrow.frozen (j + 1)
          have c0 := hrow.cell (i := j) (by omega)
          rw [sumV_next] at c1
          rw [sumV_at _ _ _ (Nat.le_refl _)] at c0
          have hsl := srcs_le E0 j
          have hcl := cb_le E0 j
          obtain ⟨x, hx⟩ : ∃ x, x = (srcs E0 j).length := ⟨_, rfl⟩
          obtain ⟨y, hy⟩ : ∃ y, y = cb E0 j := ⟨_, rfl⟩
          rw [← hx] at c1 hsl
          rw [← hy] at c0 hcl
          have HXX : Hid (x = (srcs E0 j).length) := hx
          have HYY : Hid (y = cb E0 j) := hy
          have hlj' : (j : Int) + 1 < (i : Int) + 1 := by omega
          clear hrow hb hx hy
          go_upto_region 14 with fail
          go_region
          go_wp2
          go_roundw
          case rel =>
            refine ⟨j + 1, by omega, by go_num, ((HROW.out.set (j + 1) _).congr (fun z _ => ?_)).drew, (HB.out.setCell (Nat.le_refl _) _).drew, by show (wr.setCell _ _).heap.size = _; rw [set_size]; exact HSZ.out⟩
            rw [← sumV_step, HXX.out, HYY.out]
          case measure => simp [intOf]; omega
        · have hji : j = i := by omega
          subst hji
          have ctot := hrow.cell (i := j) (by omega)
          rw [sumV_at _ _ _ (Nat.le_refl _)] at ctot
          have hall : cb E0 j = E0.length := by rw [HE.out]; exact cb_all HG.out
          rw [hall] at ctot
          obtain ⟨tot, ht⟩ : ∃ tot, tot = E0.length := ⟨_, rfl⟩
          rw [← ht] at ctot hE0 hall
          have HT : Hid (tot = E0.length) := ht
          have HALL : Hid (cb E0 j = tot) := hall
          have hmk1 := run_make_row' (P := Try.prog) 29 3 (.int .i64 0) 8 Try.underlying29 Try.info3 rfl .i64 .i64 tot (by omega) (by omega)
          have hmk2 := run_make_row' (P := Try.prog) 29 3 (.int .i64 0) 8 Try.underlying29 Try.info3 rfl .i64 .i64 j (by omega) (by omega)
          have hsz1 := HSZ.out
          clear hrow hb hall ht
          go_wp2
          clear hmk1 hmk2 ctot hsz1
          go_loopw [11] (fun c wr => ∃ m : Nat, m ≤ j ∧ c = .int .i64 m ∧ Cpy w.heap.size j tot m E0 w wr) (fun c _ => j - (intOf c).toNat)
          case atStart => exact ⟨0, Nat.zero_le _, rfl, cpy_start HROW.out HB.out HSZ.out⟩
          case round =>
            obtain ⟨m, hm, rfl, hcp⟩ := hrel
            clear HSZ HROW HB
            have HCP : Hid (Cpy w.heap.size j tot m E0 w wr) := hcp
            by_cases hlm : m < j
            · have c0 := hcp.cnt.cell (i := m) (by omega)
              have c2 := hcp.fill.cell hlm
              have f2 := hcp.fill.frozen m
              clear hcp
              go_wp2
              go_roundw
              case rel => exact ⟨m + 1, by omega, by go_num, HCP.out.step⟩
              case measure => simp [intOf]; omega
            · have hmj : m = j := by omega
              subst hmj
              have HLY : Hid (Lay w.heap.size m tot E0 [] w wr) := hcp.done
              clear hcp HCP
              go_wp2
              -- the sources are laid
              go_loopw [12] (fun c wr => ∃ i : Nat, i ≤ m ∧ c = .int .i64 i ∧ Lay w.heap.size m tot E0 (rowsE (graphOf xss) i) w wr) (fun c _ => m - (intOf c).toNat)
              case atStart => exact ⟨0, Nat.zero_le _, rfl, HLY.out⟩
              case round =>
                obtain ⟨i, hi, rfl, hly⟩ := hrel
                clear HLY
                have HLY : Hid (Lay w.heap.size m tot E0 (rowsE (graphOf xss) i) w wr) := hly
                have hb := hly.below
                clear hly
                by_cases hlt : i < m
                · obtain ⟨b, off, u, hao, hbB, hcu, uo, ucap, hus, hur⟩ := HC.out i hlt
                  subst hao
                  subst hus
                  have hcu' := (hb.cell (p := ⟨b, off + i, none⟩) hbB).trans hcu
                  have HUR : Hid (∀ k, k < (xss.getD i []).length → ∃ b off, uo = some ⟨b, off, none⟩ ∧ b < w.heap.size ∧ w.cell? ⟨b, off + k, none⟩ = some (.int .i64 ((xss.getD i []).getD k 0))) := hur
                  have hml := HLL.out i
                  unfold maxLen at hml
                  obtain ⟨L, hL⟩ : ∃ L, L = (xss.getD i []).length := ⟨_, rfl⟩
                  rw [← hL] at hcu' hml
                  have HL : Hid (L = (xss.getD i []).length) := hL
                  clear hb hcu hur hL
                  go_wp2
                  go_loopw [14] (fun c wr => ∃ k : Nat, k ≤ L ∧ c = .int .i64 k ∧ Lay w.heap.size m tot E0 (partE (graphOf xss) i k) w wr) (fun c _ => L - (intOf c).toNat)
                  case atStart => exact ⟨0, Nat.zero_le _, rfl, by rw [partE_zero]; exact HLY.out⟩
                  case round =>
                    obtain ⟨k, hk, rfl, hly⟩ := hrel
                    clear HLY hcu'
                    have HLY : Hid (Lay w.heap.size m tot E0 (partE (graphOf xss) i k) w wr) := hly
                    have hb := hly.below
                    by_cases hlk : k < L
                    · obtain ⟨b', off', huo, hbB', hcell⟩ := HUR.out k (by rw [← HL.out]; exact hlk)
                      subst huo
                      obtain ⟨j, hjn, hjx, hkg, hgj⟩ := graph_row HR.out (i := i) (k := k) (by rw [← HL.out]; exact hlk)
                      have hcj := (hb.cell (p := ⟨b', off' + k, none⟩) hbB').trans hcell
                      rw [hjx] at hcj
                      have hsucc := partE_succ (graphOf xss) i k hkg
                      rw [hgj] at hsucc
                      have HSUCC : Hid (partE (graphOf xss) i (k + 1) = partE (graphOf xss) i k ++ [(i, j)]) := hsucc
                      have hpre : ∃ F, E0 = (partE (graphOf xss) i k ++ [(i, j)]) ++ F := by
                        rw [← hsucc, HE.out]; exact partE_prefix (graphOf xss) m i (k + 1) hlt
                      have HPRE : Hid (∃ F, E0 = (partE (graphOf xss) i k ++ [(i, j)]) ++ F) := hpre
                      obtain ⟨R, hR, hok⟩ := hly.rev
                      obtain ⟨q, hq⟩ : ∃ q, q = cb E0 j + (srcs (partE (graphOf xss) i k) j).length := ⟨_, rfl⟩
                      have hqt : q < tot := by
                        have h1 := cb_succ j E0
                        have h2 := cb_le_cb E0 (show j + 1 ≤ m by omega)
                        have h3 := HALL.out
                        have h4 : (srcs (partE (graphOf xss) i k ++ [(i, j)]) j).length ≤ (srcs E0 j).length := by
                          obtain ⟨F, hF⟩ := hpre
                          rw [hF, srcs_append _ F, List.length_append]; omega
                        rw [srcs_append, srcs_one, if_pos rfl, List.length_append, List.length_singleton] at h4
                        omega
                      have cf := hly.fill.cell hjn
                      have ff := hly.fill.frozen j
                      have cr := hR.cell hqt
                      have fr := hR.frozen q
                      have ecf : fillV E0 (partE (graphOf xss) i k) j = .int .i64 (q : Int) := by rw [hq]; rfl
                      rw [ecf] at cf
                      have HQ : Hid (q = cb E0 j + (srcs (partE (graphOf xss) i k) j).length) := hq
                      have hjn' : (j : Int) < (m : Int) := by omega
                      have hqt' : (q : Int) < (tot : Int) := by omega
                      clear hly hb hcell hjx hkg hgj hsucc hpre hok hR hq ecf
                      go_wp2
                      go_roundw
                      case rel =>
                        refine ⟨k + 1, by omega, by go_num, ?_⟩
                        rw [HSUCC.out]
                        exact HLY.out.step HQ.out HPRE.out
                      case measure => simp [intOf]; omega
                    · have hkL : k = L := by omega
                      clear hly hb
                      go_wp2
                      go_roundw
                      case rel =>
                        refine ⟨i + 1, by omega, by go_num, ?_⟩
                        rw [← partE_all (graphOf xss) i k (by simp only [graphOf, List.length_map]; have := HL.out; omega)]
                        exact HLY.out
                      case measure => simp [intOf]; omega
                · have hin : i = m := by omega
                  subst hin
                  clear hb
                  obtain ⟨R, hR, hok⟩ := HLY.out.rev
                  rw [← HE.out] at hok
                  have HRV : Hid (RevOK E0 E0 R) := hok
                  have HRR : Hid (wr.rowIs (w.heap.size + 1) 3 tot (fun p => .int .i64 (R p))) := hR
                  have hsz3 := HLY.out.size
                  have hmk := run_make_row' (P := Try.prog) 29 3 (.int .i64 0) 8 Try.underlying29 Try.info3 rfl .i64 .i64 i (by omega) (by omega)
                  obtain ⟨i0, hi0, hz0, hz1, hz2⟩ := info_parts Try.info3
                  clear hok hR
                  go_upto_region 33 with (at_make; refine wpList_make_own _ rfl (.const (.int .i64 0)) (.tmp 122) 29 rfl (w.heap.size + 4) 3 i0 (.int .i64 0) 1 Try.underlying29 hi0 hz0 hz1 .i64 .i64 i i rfl rfl rfl (by rw [hz2]; omega) (by unfold maxLen; omega) (by simp; omega) ?_; intro w1 hown1 hgrow1)
                  have hal : (wr.alloc (.cells (madeCells #[.int .i64 0] i) 3)).heap.size = w.heap.size + 3 + 1 := by simp [hsz3]
                  rw [hal] at hown1
                  have HKQ : Hid (Kq w.heap.size i tot E0 R (fun _ => 0) (.slice (some ⟨w.heap.size + 3 + 1, 0, none⟩) 0 i) [] w w1) := kq_start HLY.out HRR.out rfl hown1 hgrow1
                  clear hown1 hgrow1 hmk hsz3 HRR HLY hal
                  go_wp2
                  -- the steps without dependencies
                  go_loopw [18, 17] (fun c vq wr => ∃ k : Nat, k ≤ i ∧ c = .int .i64 k ∧ Kq w.heap.size i tot E0 R (remI (graphOf xss) k) vq (free (graphOf xss) k) w wr) (fun c _ _ => i - (intOf c).toNat)
                  case atStart => exact ⟨0, Nat.zero_le _, rfl, HKQ.out.congr (fun x _ => by simp [remI])⟩
                  case round =>
                    obtain ⟨k, hk, rfl, hkq⟩ := hrel
                    clear HKQ
                    have HKQ : Hid (Kq w.heap.size i tot E0 R (remI (graphOf xss) k) u17 (free (graphOf xss) k) w wr) := hkq
                    have hsz4 := hkq.size
                    have hfl := free_le (graphOf xss) k
                    by_cases hlk : k < i
                    · obtain ⟨b, off, u, hao, hbB, hcu, uo, ucap, hus, hur⟩ := HC.out k hlk
                      subst hao
                      subst hus
                      have hcu' := (hkq.below.cell (p := ⟨b, off + k, none⟩) hbB).trans hcu
                      have hml := HLL.out k
                      unfold maxLen at hml
                      obtain ⟨L, hL⟩ : ∃ L, L = (xss.getD k []).length := ⟨_, rfl⟩
                      rw [← hL] at hcu' hml
                      have hgl : (graphOf xss k).length = L := by rw [hL]; simp [graphOf]
                      have HGL : Hid ((graphOf xss k).length = L) := hgl
                      have crem := hkq.rem.cell hlk
                      have frem := hkq.rem.frozen k
                      have hstep : Kq w.heap.size i tot E0 R (remI (graphOf xss) (k + 1)) u17 (free (graphOf xss) k) w (wr.setCell ⟨w.heap.size + 3, k, none⟩ (.int .i64 (L : Int))) := by
                        have h1 := hkq.setRem k (L : Int)
                        rw [← hgl] at h1 ⊢
                        exact h1.congr (fun x _ => remI_step (graphOf xss) k x)
                      have HST : Hid (Kq w.heap.size i tot E0 R (remI (graphOf xss) (k + 1)) u17 (free (graphOf xss) k) w (wr.setCell ⟨w.heap.size + 3, k, none⟩ (.int .i64 (L : Int)))) := hstep
                      have hfs := free_succ (graphOf xss) k
                      have HFS : Hid (free (graphOf xss) (k + 1) = free (graphOf xss) k ++ (if (graphOf xss k).length = 0 then [k] else [])) := hfs
                      clear hkq hcu hur hL hgl hstep hfs
                      by_cases hL0 : L = 0
                      · have ht : ((L : Int) == 0) = true := by simp [hL0]
                        have HL0 : Hid (L = 0) := hL0
                        clear hL0
                        go_wp2_with (at_builtin; refine wpList_append_own_at _ rfl (.tmp 142) (.tmp 144) 29 rfl (w.heap.size + 4) 3 i0 (.int .i64 0) 1 8 Try.underlying29 hi0 hz0 hz1 hz2 rfl (by decide) u17 (free (graphOf xss) k).length ((free (graphOf xss) k).map natV) rfl (HST.out.q.alloc _) ⟨wr.heap.size, 0, none⟩ 1 1 [natV k] rfl rfl new_one (by simp [natV, Value.oneCell']) (by unfold maxLen; omega) (by omega) (by simp; omega) ?_; intro v' w2 hown' hgrow _ hat; obtain ⟨g', cap', rfl⟩ := own_slice hown')
                        go_roundw
                        case rel =>
                          refine ⟨k + 1, by omega, by go_num, ?_⟩
                          rw [HFS.out, if_pos (by rw [HGL.out]; exact HL0.out)]
                          exact HST.out.push k _ hown' hgrow
                        case measure => simp [intOf]; omega
                      · have ht : ((L : Int) == 0) = false := by simp; omega
                        have HL0 : Hid (¬ L = 0) := hL0
                        clear hL0
                        go_wp2
                        go_roundw
                        case rel =>
                          refine ⟨k + 1, by omega, by go_num, ?_⟩
                          rw [HFS.out, if_neg (by rw [HGL.out]; exact HL0.out), List.append_nil]
                          exact HST.out
                        case measure => simp [intOf]; omega
                    · have hki : k = i := by omega
                      subst hki
                      have HPE : Hid (Peel (graphOf xss) k (free (graphOf xss) k) (procOf (graphOf xss) k (free (graphOf xss) k) 0 0 0)) := peel_start _ _ _
                      have hE := HE.out
                      subst hE
                      clear hkq hsz4 hfl
                      go_wp2
                      -- the peeling
                      go_loopw [19, 17] (fun c vq wr => ∃ (h : Nat) (Q : List Nat), h ≤ Q.length ∧ c = .int .i64 h ∧ Peel (graphOf xss) k Q (procOf (graphOf xss) k Q h 0 0) ∧ Kq w.heap.size k tot (rowsE (graphOf xss) k) R (remF (graphOf xss) (procOf (graphOf xss) k Q h 0 0)) vq Q w wr) (fun c _ _ => k - (intOf c).toNat)
                      case atStart => exact ⟨0, free (graphOf xss) k, Nat.zero_le _, rfl, HPE.out, HKQ.out.congr (fun x hx => by simp [remI, remF, procOf, hx])⟩
                      case round =>
                        obtain ⟨h, Q, hh, rfl, hpe, hkq⟩ := hrel
                        clear HPE HKQ
                        obtain ⟨vao, vcap, hvq⟩ := own_shape hkq.q
                        subst hvq
                        have hQn : Q.length ≤ k := nodup_le hpe.nd hpe.lt
                        have HPE : Hid (Peel (graphOf xss) k Q (procOf (graphOf xss) k Q h 0 0)) := hpe
                        have HKQ : Hid (Kq w.heap.size k tot (rowsE (graphOf xss) k) R (remF (graphOf xss) (procOf (graphOf xss) k Q h 0 0)) (.slice vao Q.length vcap) Q w wr) := hkq
                        by_cases hlh : h < Q.length
                        · obtain ⟨j, hj⟩ : ∃ j, Q[h]? = some j := ⟨Q[h], by simp [hlh]⟩
                          have hjk : j < k := hpe.lt j (List.mem_of_getElem? hj)
                          obtain ⟨q2, hq2⟩ : ∃ q2, Q.length = q2 + 1 := ⟨Q.length - 1, by omega⟩
                          obtain ⟨g', cap', hs⟩ := own_slice' (k := q2) hq2 hkq.q
                          have hao : vao = some ⟨g', 0, none⟩ := by injection hs
                          subst hao
                          have cq := own_at hkq.q hj
                          have ccnt := hkq.cnt.cell (i := j) (by omega)
                          have HJ : Hid (Q[h]? = some j) := hj
                          have hjk' : (j : Int) < (k : Int) := by omega
                          have hcbt : cb (rowsE (graphOf xss) k) j ≤ 131072 := by have h1 := cb_le (rowsE (graphOf xss) k) j; have h2 := HT.out; omega
                          obtain ⟨c0, hc0⟩ : ∃ c0, c0 = cb (rowsE (graphOf xss) k) j := ⟨_, rfl⟩
                          rw [← hc0] at ccnt hcbt
                          have HC0 : Hid (c0 = cb (rowsE (graphOf xss) k) j) := hc0
                          clear hpe hkq hj hs hq2 hc0
                          go_wp2
                          clear cq ccnt
                          go_loopw [21, 17] (fun c vq wr => ∃ (r p : Nat) (Q : List Nat), r ≤ (srcs (rowsE (graphOf xss) k) j).length ∧ p = c0 + r ∧ Q[h]? = some j ∧ c = .int .i64 p ∧ Peel (graphOf xss) k Q (procOf (graphOf xss) k Q h j r) ∧ Kq w.heap.size k tot (rowsE (graphOf xss) k) R (remF (graphOf xss) (procOf (graphOf xss) k Q h j r)) vq Q w wr) (fun c _ _ => tot - (intOf c).toNat)
                          case atStart => exact ⟨0, c0, Q, Nat.zero_le _, rfl, HJ.out, rfl, by simpa [procOf] using HPE.out, by simpa [procOf] using HKQ.out⟩
                          case round =>
                            obtain ⟨r, p, Q2, hrl, hpr, hj2, rfl, hpe, hkq⟩ := hrel
                            clear HPE HKQ HJ hlh hh hQn
                            have hQn : Q2.length ≤ k := nodup_le hpe.nd hpe.lt
                            have hhQ := (List.getElem?_eq_some_iff.1 hj2).1
                            have HJ : Hid (Q2[h]? = some j) := hj2
                            have HPE : Hid (Peel (graphOf xss) k Q2 (procOf (graphOf xss) k Q2 h j r)) := hpe
                            have HKQ : Hid (Kq w.heap.size k tot (rowsE (graphOf xss) k) R (remF (graphOf xss) (procOf (graphOf xss) k Q2 h j r)) u17 Q2 w wr) := hkq
                            have ccnt := hkq.cnt.cell (i := j + 1) (by omega)
                            obtain ⟨c1, hc1⟩ : ∃ c1, c1 = cb (rowsE (graphOf xss) k) (j + 1) := ⟨_, rfl⟩
                            have hcs := cb_succ j (rowsE (graphOf xss) k)
                            rw [← hc1] at hcs ccnt
                            rw [← HC0.out] at hcs
                            have hc1t : c1 ≤ tot := by have h1 := cb_le (rowsE (graphOf xss) k) (j + 1); have h2 := HT.out; omega
                            have hjk2 : (j : Int) + 1 < (k : Int) + 1 := by omega
                            by_cases hlr : r < (srcs (rowsE (graphOf xss) k) j).length
                            · obtain ⟨a, ha⟩ : ∃ a, (srcs (rowsE (graphOf xss) k) j)[r] = a := ⟨_, rfl⟩
                              have hak : a < k := srcs_lt HG.out a (by rw [← ha]; exact List.getElem_mem hlr)
                              have hRa : R p = (a : Int) := by rw [hpr, HC0.out, HRV.out j r hlr, ha]
                              have crev := hkq.rev.cell (i := p) (by omega)
                              rw [hRa] at crev
                              obtain ⟨s1, s2, s3, s4, s5⟩ := peel_step hpe hj2 hlr ha hak
                              have crem := hkq.rem.cell hak
                              have frem := hkq.rem.frozen a
                              have hlen : (graphOf xss a).length ≤ maxLen := by simp only [graphOf, List.length_map]; exact HLL.out a
                              unfold maxLen at hlen
                              obtain ⟨y, hy⟩ : ∃ y, y = remF (graphOf xss) (procOf (graphOf xss) k Q2 h j r) a := ⟨_, rfl⟩
                              rw [← hy] at crem
                              have hy' := hy
                              unfold remF at hy'
                              have hy1 : 1 ≤ y := by omega
                              have hy2 : y ≤ 9223372036854775807 := by omega
                              have hstep : Kq w.heap.size k tot (rowsE (graphOf xss) k) R (remF (graphOf xss) (procOf (graphOf xss) k Q2 h j (r + 1))) u17 Q2 w (wr.setCell ⟨w.heap.size + 3, a, none⟩ (.int .i64 (y - 1))) := by
                                refine (hkq.setRem a (y - 1)).congr (fun x _ => ?_)
                                by_cases e : x = a
                                · rw [e, upd_same]; unfold remF; omega
                                · rw [upd_other _ _ _ _ e]; unfold remF; rw [s3 x e]
                              have HST : Hid (Kq w.heap.size k tot (rowsE (graphOf xss) k) R (remF (graphOf xss) (procOf (graphOf xss) k Q2 h j (r + 1))) u17 Q2 w (wr.setCell ⟨w.heap.size + 3, a, none⟩ (.int .i64 (y - 1)))) := hstep
                              have hsz4 := hkq.size
                              have hpc : p < c1 := by omega
                              have hpc' : (p : Int) < (c1 : Int) := by omega
                              have hpt' : (p : Int) < (tot : Int) := by omega
                              have hak' : (a : Int) < (k : Int) := by omega
                              have HPR : Hid (p = c0 + r) := hpr
                              have HLR : Hid (r < (srcs (rowsE (graphOf xss) k) j).length) := hlr
                              by_cases hz : (procOf (graphOf xss) k Q2 h j (r + 1)).count a = (graphOf xss a).length
                              · obtain ⟨t1, t2⟩ := s5 hz
                                have ht : (y - 1 == 0) = true := beq_iff_eq.2 (by omega)
                                have HT1 : Hid (Peel (graphOf xss) k (Q2 ++ [a]) (procOf (graphOf xss) k (Q2 ++ [a]) h j (r + 1))) := t1
                                have HT2 : Hid (procOf (graphOf xss) k (Q2 ++ [a]) h j (r + 1) = procOf (graphOf xss) k Q2 h j (r + 1)) := t2
                                clear hpe hkq hj2 hc1 hcs ha hRa s1 s2 s3 s4 s5 hlen hy hy' hstep hpr hlr hrl hz t1 t2
                                go_wp2_with (at_builtin; refine wpList_append_own_at _ rfl (.tmp 184) (.tmp 186) 29 rfl (w.heap.size + 4) 3 i0 (.int .i64 0) 1 8 Try.underlying29 hi0 hz0 hz1 hz2 rfl (by decide) u17 Q2.length (Q2.map natV) rfl (HST.out.q.alloc _) ⟨wr.heap.size, 0, none⟩ 1 1 [natV a] rfl rfl new_one (by simp [natV, Value.oneCell']) (by unfold maxLen; omega) (by omega) (by simp; omega) ?_; intro v' w2 hown' hgrow _ hat; obtain ⟨g2, cap2, rfl⟩ := own_slice hown')
                                go_roundw
                                case rel =>
                                  have hlr := HLR.out
                                  refine ⟨r + 1, p + 1, Q2 ++ [a], hlr, by have := HPR.out; omega, by rw [List.getElem?_append, if_pos hhQ]; exact HJ.out, by go_num, HT1.out, ?_⟩
                                  rw [HT2.out]
                                  exact HST.out.push a _ hown' hgrow
                                case measure => simp [intOf]; omega
                              · have ht : (y - 1 == 0) = false := by
                                  rw [beq_eq_false_iff_ne]; omega
                                have HS4 : Hid (Peel (graphOf xss) k Q2 (procOf (graphOf xss) k Q2 h j (r + 1))) := s4 hz
                                clear hpe hkq hj2 hc1 hcs ha hRa s1 s2 s3 s4 s5 hlen hy hy' hstep hpr hlr hrl hz
                                go_wp2
                                go_roundw
                                case rel =>
                                  have hlr := HLR.out
                                  exact ⟨r + 1, p + 1, Q2, hlr, by have := HPR.out; omega, HJ.out, by go_num, HS4.out, HST.out⟩
                                case measure => simp [intOf]; omega
                            · have hre : r = (srcs (rowsE (graphOf xss) k) j).length := by omega
                              have hpc : ¬ p < c1 := by omega
                              have hnx := procOf_next (g := graphOf xss) (n := k) (j' := 0) hj2
                              rw [← hre] at hnx
                              have HPE2 : Hid (Peel (graphOf xss) k Q2 (procOf (graphOf xss) k Q2 (h + 1) 0 0)) := by rw [← hnx]; exact hpe
                              have HKQ2 : Hid (Kq w.heap.size k tot (rowsE (graphOf xss) k) R (remF (graphOf xss) (procOf (graphOf xss) k Q2 (h + 1) 0 0)) u17 Q2 w wr) := by rw [← hnx]; exact hkq
                              clear hpe hkq hj2 hc1 hcs hnx hpr hrl hre hlr
                              go_wp2
                              go_roundw
                              case rel => exact ⟨h + 1, Q2, by omega, by go_num, HPE2.out, HKQ2.out⟩
                              case measure => simp [intOf]; omega
                        · have hB := hkq.below
                          have HBF : Hid (Below w.heap.size w wr) := hB
                          clear hpe hkq hB
                          go_wp2
                          go_ret
                          refine ⟨⟨_, rfl, fun hq => ?_⟩, HBF.out⟩
                          have hql : Q.length = k := by
                            have := of_decide_eq_true hq
                            omega
                          exact peel_rank HPE.out hql

end Go.Proofs.Qxb6627646a
