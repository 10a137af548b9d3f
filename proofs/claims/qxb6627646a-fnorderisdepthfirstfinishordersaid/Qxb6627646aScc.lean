import Derived.Test.Qxb6627646aVisit
import Derived.Laws.EntriesVeiled
namespace Go.Proofs.Qxb6627646a
open Go.RowKit Go.Deep
set_option linter.unusedVariables false

theorem row_made {w : World} {b t n : Nat} {z : Value} (h : w.heap[b]? = some (.cells (madeCells #[z] n) t)) : w.rowIs b t n (fun _ => z) :=
  ⟨_, h, size_madeCells _ _, fun i hi => by simp [madeCells, hi, Nat.mod_one]⟩

theorem cell_made {w : World} {b t : Nat} {v : Value} (h : w.heap[b]? = some (.cells #[v] t)) : w.cell? ⟨b, 0, none⟩ = some v := by simp [World.cell?, h]
theorem frozen_made {w : World} {b t : Nat} {v : Value} (h : w.heap[b]? = some (.cells #[v] t)) : w.frozen? ⟨b, 0, none⟩ = false := by simp [World.frozen?, h]

theorem push_at {a : Array Obj} {x : Obj} {k : Nat} (h : k = a.size) : (a.push x)[k]? = some x := by subst h; simp
theorem push_lt {a : Array Obj} {x y : Obj} {k : Nat} (h : a[k]? = some y) : (a.push x)[k]? = some y := by
  have hk := (Array.getElem?_eq_some_iff.1 h).1
  rw [Array.getElem?_push, if_neg (by omega)]
  exact h

/-- The first seven blocks; the first k numbers are -1. -/
structure Pre (N n : Nat) (vd : Value) (k : Nat) (w : World) : Prop where
  size : w.heap.size = N + 7
  c0 : w.cell? ⟨N, 0, none⟩ = some vd
  r1 : w.rowIs (N + 1) 3 n (fun j => .int .i64 (if j < k then -1 else 0))
  c2 : w.cell? ⟨N + 2, 0, none⟩ = some (.slice (some ⟨N + 1, 0, none⟩) n n)
  r3 : w.rowIs (N + 3) 3 n (fun _ => .int .i64 0)
  c4 : w.cell? ⟨N + 4, 0, none⟩ = some (.slice (some ⟨N + 3, 0, none⟩) n n)
  r5 : w.rowIs (N + 5) 4 n (fun _ => .bool false)
  c6 : w.cell? ⟨N + 6, 0, none⟩ = some (.slice (some ⟨N + 5, 0, none⟩) n n)

theorem pre_start (w : World) (n : Nat) (vd : Value) (o2 o4 o6 : Value) (h2 : o2 = .slice (some ⟨w.heap.size + 1, 0, none⟩) n n) (h4 : o4 = .slice (some ⟨w.heap.size + 3, 0, none⟩) n n) (h6 : o6 = .slice (some ⟨w.heap.size + 5, 0, none⟩) n n) :
    Pre w.heap.size n vd 0 (((((((w.alloc (.cells #[vd] 23)).alloc (.cells (madeCells #[.int .i64 0] n) 3)).alloc (.cells #[o2] 29)).alloc (.cells (madeCells #[.int .i64 0] n) 3)).alloc (.cells #[o4] 29)).alloc (.cells (madeCells #[.bool false] n) 4)).alloc (.cells #[o6] 37)) := by
  subst h2; subst h4; subst h6
  have ha : ∀ (w : World) (o : Obj), (w.alloc o).heap = w.heap.push o := fun _ _ => rfl
  refine ⟨by simp only [ha, Array.size_push], cell_made (t := 23) ?_, (row_made (z := .int .i64 0) ?_).congr (fun j _ => by simp), cell_made (t := 29) ?_, row_made ?_, cell_made (t := 29) ?_, row_made ?_, cell_made (t := 37) ?_⟩ <;> (simp only [ha]; repeat (first | exact push_at rfl | (refine push_at ?_; simp only [Array.size_push] <;> omega) | apply push_lt))

theorem Pre.step {N n : Nat} {vd : Value} {k : Nat} {w : World} (h : Pre N n vd k w) : Pre N n vd (k + 1) (w.setCell ⟨N + 1, k, none⟩ (.int .i64 (-1))) := by
  refine ⟨by rw [set_size]; exact h.size, ?_, (h.r1.set k _).congr (fun j _ => ?_), ?_, h.r3.setOther (by show N + 3 ≠ N + 1; omega) _, ?_, h.r5.setOther (by show N + 5 ≠ N + 1; omega) _, ?_⟩
  · rw [set_other (by omega)]; exact h.c0
  · by_cases e : j = k
    · simp [e]
    · by_cases h1 : j < k
      · simp [e, h1, show j < k + 1 by omega]
      · simp [e, h1, show ¬ j < k + 1 by omega]
  · rw [set_other (by omega)]; exact h.c2
  · rw [set_other (by omega)]; exact h.c4
  · rw [set_other (by omega)]; exact h.c6

/-- All twelve blocks; the first k starts are laid. -/
structure Pre2 (N n : Nat) (w1 : World) (k : Nat) (w : World) : Prop where
  size : w.heap.size = N + 12
  old : ∀ b, b < N + 7 → w.heap[b]? = w1.heap[b]?
  h7 : w.heap[N + 7]? = some (.cells #[.slice none 0 0] 29)
  h8 : w.heap[N + 8]? = some (.cells #[.slice none 0 0] 23)
  h9 : w.heap[N + 9]? = some (.cells #[.int .i64 0] 3)
  h10 : w.heap[N + 10]? = some (.cells #[visitFn N] 38)
  r11 : w.rowIs (N + 11) 3 n (fun j => .int .i64 (if j < k then (j : Int) else 0))

theorem pre2_start {N n : Nat} {w : World} (h : w.heap.size = N + 7) (fn : Value) (hfn : fn = visitFn N) :
    Pre2 N n w 0 (((((w.alloc (.cells #[.slice none 0 0] 29)).alloc (.cells #[.slice none 0 0] 23)).alloc (.cells #[.int .i64 0] 3)).alloc (.cells #[fn] 38)).alloc (.cells (madeCells #[.int .i64 0] n) 3)) := by
  subst hfn
  have ha : ∀ (w : World) (o : Obj), (w.alloc o).heap = w.heap.push o := fun _ _ => rfl
  refine ⟨by simp only [ha, Array.size_push]; omega, fun b hb => ?_, ?_, ?_, ?_, ?_, (row_made (z := .int .i64 0) ?_).congr (fun j _ => by simp)⟩
  · simp only [ha]
    rw [Array.getElem?_push, if_neg (by simp only [Array.size_push]; omega), Array.getElem?_push, if_neg (by simp only [Array.size_push]; omega), Array.getElem?_push, if_neg (by simp only [Array.size_push]; omega), Array.getElem?_push, if_neg (by simp only [Array.size_push]; omega), Array.getElem?_push, if_neg (by omega)]
  · simp only [ha]; exact push_lt (push_lt (push_lt (push_lt (push_at (by omega)))))
  · simp only [ha]; exact push_lt (push_lt (push_lt (push_at (by simp only [Array.size_push]; omega))))
  · simp only [ha]; exact push_lt (push_lt (push_at (by simp only [Array.size_push]; omega)))
  · simp only [ha]; exact push_lt (push_at (by simp only [Array.size_push]; omega))
  · simp only [ha]; exact push_at (by simp only [Array.size_push]; omega)

theorem Pre2.step {N n : Nat} {w1 w : World} {k : Nat} (h : Pre2 N n w1 k w) : Pre2 N n w1 (k + 1) (w.setCell ⟨N + 11, k, none⟩ (.int .i64 (k : Int))) := by
  have hb : ∀ b, b ≠ N + 11 → (w.setCell ⟨N + 11, k, none⟩ (.int .i64 (k : Int))).heap[b]? = w.heap[b]? := fun b hb => blk_setCell_other _ _ _ _ hb
  refine ⟨by rw [set_size]; exact h.size, fun b hlt => (hb b (by omega)).trans (h.old b hlt), (hb _ (by omega)).trans h.h7, (hb _ (by omega)).trans h.h8, (hb _ (by omega)).trans h.h9, (hb _ (by omega)).trans h.h10, (h.r11.set k _).congr (fun j _ => ?_)⟩
  by_cases e : j = k
  · simp [e]
  · by_cases h1 : j < k
    · simp [e, h1, show j < k + 1 by omega]
    · simp [e, h1, show ¬ j < k + 1 by omega]

/-- Behind the making of all twelve blocks. -/
theorem fix_start {N n : Nat} {vd : Value} {w w' : World} (h : Pre N n vd n w) (hs : N + 12 ≤ w'.heap.size) (hk : ∀ k, k < N + 7 → w'.heap[k]? = w.heap[k]?)
    (h7 : w'.heap[N + 7]? = some (.cells #[.slice none 0 0] 29)) (h8 : w'.heap[N + 8]? = some (.cells #[.slice none 0 0] 23)) (h9 : w'.heap[N + 9]? = some (.cells #[.int .i64 0] 3)) (h10 : w'.heap[N + 10]? = some (.cells #[visitFn N] 38))
    (h11 : w'.rowIs (N + 11) 3 n (fun j => .int .i64 (j : Int))) : Mem N n vd startSt (.slice none 0 0) (.slice none 0 0) [] w' := by
  have hc : ∀ b, b < N + 7 → w'.cell? ⟨b, 0, none⟩ = w.cell? ⟨b, 0, none⟩ := fun b hb => World.cell?_of_block (hk b hb)
  refine ⟨⟨hs, (hc _ (by omega)).trans h.c0, (h.r1.of_block (hk _ (by omega))).congr (fun j hj => by simp [hj, startSt]), (hc _ (by omega)).trans h.c2, h.r3.of_block (hk _ (by omega)), (hc _ (by omega)).trans h.c4, h.r5.of_block (hk _ (by omega)), (hc _ (by omega)).trans h.c6,
    cell_made h7, frozen_made h7, cell_made h8, frozen_made h8, cell_made h9, frozen_made h9, cell_made h10, h11⟩, ⟨World.ownsRow_nil _ _ _ _, World.ownsRow_nil _ _ _ _, fun k c hc => ?_⟩⟩
  simp [startSt] at hc

/-- The state when the first k starts are done. -/
def rootsSt (g : Nat → List Nat) (n k : Nat) : St := (List.range k).foldl (rootSt g n) startSt
theorem rootsSt_succ (g : Nat → List Nat) (n k : Nat) : rootsSt g n (k + 1) = rootSt g n (rootsSt g n k) k := by simp [rootsSt, List.range_succ]

theorem roots_inv (n : Nat) (g : Nat → List Nat) (hg : ∀ i, ∀ j ∈ g i, j < n) : ∀ k, k ≤ n → Inv n (rootsSt g n k) ∧ (rootsSt g n k).stack = [] ∧ ∀ j, j < k → (rootsSt g n k).ord j ≠ -1
  | 0, _ => ⟨inv_start n, rfl, fun j hj => absurd hj (Nat.not_lt_zero _)⟩
  | k + 1, hk => by
    obtain ⟨h1, h2, h3⟩ := roots_inv n g hg k (by omega)
    rw [rootsSt_succ]
    unfold rootSt
    by_cases hv : (rootsSt g n k).ord k = -1
    · rw [if_pos hv]
      have hd := visit_done n g hg n _ k h1 (by omega) hv (by omega)
      refine ⟨hd.inv, hd.root h2, fun j hj => ?_⟩
      by_cases e : j = k
      · rw [e, hd.own]; omega
      · rw [(hd.old j (h3 j (by omega))).1]; exact h3 j (by omega)
    · rw [if_neg hv]
      refine ⟨h1, h2, fun j hj => ?_⟩
      by_cases e : j = k
      · rw [e]; exact hv
      · exact h3 j (by omega)

/-- What stronglyConnected leaves: the components, each in a row of its own; nothing that was there has turned. -/
def SccEnd (N n : Nat) (t : St) (w w' : World) (e : Ending) : Prop :=
  ∃ vc cvs, e = .returned vc ∧ w'.ownsRow (N + 12) 29 1 vc t.comps.length cvs ∧ (∀ (k : Nat) (c : List Nat), t.comps[k]? = some c → ∃ u, cvs[k]? = some u ∧ w'.ownsRow (N + 12) 3 1 u c.length (c.map natV)) ∧ Below N w w'

theorem own_shape {w : World} {base e size k : Nat} {v : Value} {xs : List Value} (h : w.ownsRow base e size v k xs) : ∃ ao cap, v = .slice ao k cap := by
  rcases h.2 with ⟨h0, h1⟩ | ⟨g, cap, cur, hv, _⟩
  · subst h1; exact ⟨none, 0, h0⟩
  · exact ⟨_, cap, hv⟩

set_option maxHeartbeats 1000000 in
set_option maxRecDepth 100000 in
theorem scc_any (vd : Value) (xss : List (List Int)) (n : Nat) (w : World) (hn : n ≤ 100000) (hx : xss.length = n) (hr : rowsInRange (n : Int) xss = true) (hll : ∀ k, (xss.getD k []).length ≤ maxLen) (hd : IntRows w w.heap.size vd xss) :
    Calls Try.prog 14 #[vd, .slice none 0 0] w fun e w' => SccEnd w.heap.size n (rootsSt (graphOf xss) n n) w w' e := by
  have HD : Hid (IntRows w w.heap.size vd xss) := hd
  obtain ⟨ao, dcap, hvd, hc⟩ := hd
  subst hvd
  have HX : Hid (xss.length = n) := hx
  have HR : Hid (rowsInRange (n : Int) xss = true) := hr
  have HLL : Hid (∀ k, (xss.getD k []).length ≤ maxLen) := hll
  rw [hx]
  rw [hx] at HD
  have hmk1 := run_make_row' (P := Try.prog) 29 3 (.int .i64 0) 8 Try.underlying29 Try.info3 rfl .i64 .i64 n (by omega) (by omega)
  have hmk2 := run_make_row' (P := Try.prog) 37 4 (.bool false) 1 Try.underlying37 Try.info4 rfl .i64 .i64 n (by omega) (by omega)
  clear hc hll hr hx
  go_enter Try.func14, Try.ntmps14
  go_wp2
  obtain ⟨N, hN⟩ : ∃ N, N = w.heap.size := ⟨_, rfl⟩
  have HN : Hid (N = w.heap.size) := hN
  rw [← hN]
  rw [← hN] at HD
  go_loopw [27] (fun c wr => ∃ k : Nat, k ≤ n ∧ c = .int .i64 k ∧ Pre N n (.slice ao n dcap) k wr ∧ Below N w wr) (fun c _ => n - (intOf c).toNat)
  case atStart =>
    refine ⟨0, Nat.zero_le _, rfl, by subst hN; exact pre_start w n _ _ _ _ rfl rfl rfl, ?_⟩
    subst hN
    exact (((((((Below.refl _ _).alloc (Nat.le_refl _) _).alloc (by simp <;> omega) _).alloc (by simp <;> omega) _).alloc (by simp <;> omega) _).alloc (by simp <;> omega) _).alloc (by simp <;> omega) _).alloc (by simp <;> omega) _
  case round =>
    obtain ⟨k, hk, rfl, hp, hb⟩ := hrel
    clear hN
    have HP : Hid (Pre N n (.slice ao n dcap) k wr) := hp
    have HB : Hid (Below N w wr) := hb
    have hsz := hp.size
    by_cases hlt : k < n
    · have c1 := hp.r1.cell hlt
      have f1 := hp.r1.frozen k
      have c2 := hp.c2
      clear hp hb
      go_wp2
      go_roundw
      case rel => exact ⟨k + 1, by omega, by go_num, HP.out.step, HB.out.setCell (by show N ≤ N + 1; omega) _⟩
      case measure => simp [intOf]; omega
    · have hkn : k = n := by omega
      subst hkn
      have c0 := hp.c0
      have heql := fun W => run_eql_nil_slice (P := Try.prog) W 29 3 none 0 0 0 0 Try.underlying29
      clear hp hb hmk2
      go_wp2
      clear c0 heql hmk1
      go_loopw [42] (fun c w2 => ∃ (m : Nat) (w1 : World), m ≤ k ∧ c = .int .i64 m ∧ Pre N k (.slice ao k dcap) k w1 ∧ Pre2 N k w1 m w2 ∧ Below N w w2) (fun c _ => k - (intOf c).toNat)
      case atStart =>
        refine ⟨0, wr, Nat.zero_le _, rfl, HP.out, pre2_start hsz _ rfl, ?_⟩
        exact ((((HB.out.alloc (by omega) _).alloc (by simp; omega) _).alloc (by simp; omega) _).alloc (by simp; omega) _).alloc (by simp; omega) _
      case round =>
        obtain ⟨m, w1, hm, rfl, hp1, hp2, hb2⟩ := hrel
        clear HP HB hsz
        have HP1 : Hid (Pre N k (.slice ao k dcap) k w1) := hp1
        have HP2 : Hid (Pre2 N k w1 m wr) := hp2
        have HB : Hid (Below N w wr) := hb2
        by_cases hlt2 : m < k
        · have c11 := hp2.r11.cell hlt2
          have f11 := hp2.r11.frozen m
          clear hp1 hp2 hb2
          go_wp2
          go_roundw
          case rel => exact ⟨m + 1, w1, by omega, by go_num, HP1.out, HP2.out.step, HB.out.setCell (by show N ≤ N + 11; omega) _⟩
          case measure => simp [intOf]; omega
        · have hmk : m = k := by omega
          subst hmk
          have hmem : Mem N m (.slice ao m dcap) startSt (.slice none 0 0) (.slice none 0 0) [] wr :=
            fix_start hp1 (by rw [hp2.size]; exact Nat.le_refl _) hp2.old hp2.h7 hp2.h8 hp2.h9 hp2.h10 (hp2.r11.congr (fun j hj => by simp [hj]))
          have HM : Hid (Mem N m (.slice ao m dcap) startSt (.slice none 0 0) (.slice none 0 0) [] wr) := hmem
          clear hp1 hp2 hb2 hmem HP1 HP2
          go_wp2
          go_loopw [52] (fun c w2 => ∃ q : Nat, q ≤ m ∧ c = .int .i64 q ∧ VisitEnd N m (.slice ao m dcap) (rootsSt (graphOf xss) m q) w w2) (fun c _ => m - (intOf c).toNat)
          case atStart => exact ⟨0, Nat.zero_le _, rfl, ⟨_, _, _, HM.out⟩, HB.out⟩
          case round =>
            obtain ⟨q, hq, rfl, ⟨vs, vc, cvs, hm3⟩, hb3⟩ := hrel
            clear HM HB
            obtain ⟨t, ht⟩ : ∃ t, t = rootsSt (graphOf xss) m q := ⟨_, rfl⟩
            have hri := (roots_inv m (graphOf xss) (graph_lt HR.out) q hq).1
            have hsucc := rootsSt_succ (graphOf xss) m q
            rw [← ht] at hm3 hri hsucc
            have HT : Hid (t = rootsSt (graphOf xss) m q) := ht
            have HRI : Hid (Inv m t) := hri
            have HSUCC : Hid (rootsSt (graphOf xss) m (q + 1) = rootSt (graphOf xss) m t q) := hsucc
            have HM : Hid (Mem N m (.slice ao m dcap) t vs vc cvs wr) := hm3
            have HB : Hid (Below N w wr) := hb3
            by_cases hlt3 : q < m
            · have c11 := hm3.fix.r11.cell hlt3
              have c1 := hm3.fix.r1.cell hlt3
              have c2 := hm3.fix.c2
              have c10 := hm3.fix.c10
              have hq' : (q : Int) < (m : Int) := by omega
              obtain ⟨x, hx⟩ : ∃ x, x = t.ord q := ⟨_, rfl⟩
              have HXJ : Hid (x = t.ord q) := hx
              rw [← hx] at c1
              clear ht hri hsucc hm3 hb3 hx
              by_cases h1 : x = -1
              · have hx1 : (x == -1) = true := by simp [h1]
                have HX1 : Hid (x = -1) := h1
                clear h1
                unfold visitFn at c10
                have hcall := visit_any N m (.slice ao m dcap) xss hn HX.out HR.out HLL.out m t q vs vc cvs wr HRI.out hlt3 (by rw [← HXJ.out]; exact HX1.out) (by omega) HM.out (HD.out.below HB.out)
                unfold visitArgs at hcall
                go_wp2_with (go_at_call 15; refine hcall.mono ?_; rintro e w2 ⟨rfl, hve⟩)
                go_roundw
                case rel =>
                  refine ⟨q + 1, by omega, by go_num, ?_, HB.out.trans hve.2⟩
                  rw [HSUCC.out, rootSt, if_pos (by rw [← HXJ.out]; exact HX1.out)]
                  exact hve.1
                case measure => simp [intOf]; omega
              · have hx1 : (x == -1) = false := by simp [h1]
                have HX1 : Hid (¬ x = -1) := h1
                clear h1
                go_wp2
                go_roundw
                case rel =>
                  refine ⟨q + 1, by omega, by go_num, ?_, HB.out⟩
                  rw [HSUCC.out, rootSt, if_neg (by rw [← HXJ.out]; exact HX1.out)]
                  exact ⟨vs, vc, cvs, HM.out⟩
                case measure => simp [intOf]; omega
            · have hqm : q = m := by omega
              have HQM : Hid (q = m) := hqm
              obtain ⟨vao, vcap, hvc⟩ := own_shape hm3.own.cmp
              subst hvc
              have c8 := hm3.fix.c8
              clear hqm ht hri hsucc hm3 hb3
              go_wp2
              go_ret
              have hqm := HQM.out
              subst hqm
              have hN := HN.out
              subst hN
              have ht := HT.out
              subst ht
              refine ⟨_, cvs, rfl, HM.out.own.cmp, fun k c hc => ?_, HB.out⟩
              obtain ⟨u, h1, h2, _⟩ := HM.out.own.each k c hc
              exact ⟨u, h1, h2⟩

end Go.Proofs.Qxb6627646a
