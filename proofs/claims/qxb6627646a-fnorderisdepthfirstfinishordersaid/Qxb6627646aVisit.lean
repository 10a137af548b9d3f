import Derived.Test.Qxb6627646aMem
import Derived.Test.Qxb6627646aSmall
import Derived.RegionTactic
import Derived.BigRegion
import Derived.Deep.QuietTactic
import Derived.BigQuiet
import Derived.Deep.LoopGhost
import Derived.Deep.CutRange
namespace Go.Proofs.Qxb6627646a
open Go.RowKit
set_option linter.unusedVariables false

def graphOf (xss : List (List Int)) (i : Nat) : List Nat := (xss.getD i []).map Int.toNat

/-- What the world holds behind a visit. -/
def VisitEnd (N n : Nat) (vd : Value) (t : St) (w w' : World) : Prop := (∃ vs vc cvs, Mem N n vd t vs vc cvs w') ∧ Below N w w'

/-- The state with a new number for i. -/
def numSt (i : Nat) (s : St) : St := { s with ord := upd s.ord i s.next, low := upd s.low i s.next }

theorem enterSt_eq (i : Nat) (s : St) : enterSt i s = { numSt i s with next := s.next + 1, stack := s.stack ++ [i], on := upd s.on i true } := rfl

/-- The arguments of a visit: the node, and the eight variables that the closure holds. -/
def visitArgs (N : Nat) (i : Nat) : Array Value := #[.int .i64 (i : Int), .pointer (some ⟨N + 9, 0, none⟩), .pointer (some ⟨N + 2, 0, none⟩), .pointer (some ⟨N + 4, 0, none⟩), .pointer (some ⟨N + 7, 0, none⟩), .pointer (some ⟨N + 6, 0, none⟩), .pointer (some ⟨N, 0, none⟩), .pointer (some ⟨N + 10, 0, none⟩), .pointer (some ⟨N + 8, 0, none⟩)]

theorem graph_row {xss : List (List Int)} {n i k : Nat} (hr : rowsInRange (n : Int) xss = true) (hk : k < (xss.getD i []).length) :
    ∃ j, j < n ∧ (xss.getD i []).getD k 0 = (j : Int) ∧ ∃ h : k < (graphOf xss i).length, (graphOf xss i)[k] = j := by
  have hi : i < xss.length := by
    apply Nat.lt_of_not_le
    intro h
    simp [List.getD, h] at hk
  have e : xss.getD i [] = xss[i] := by simp [hi]
  have h1 : inRange (n : Int) (xss.getD i []) = true := by
    rw [e]
    exact List.all_eq_true.1 hr _ (List.getElem_mem hi)
  have e2 : (xss.getD i []).getD k 0 = (xss.getD i [])[k] := by
    generalize xss.getD i [] = l at hk
    simp [hk]
  have h2 := List.all_eq_true.1 h1 _ (List.getElem_mem hk)
  simp only [Bool.and_eq_true, decide_eq_true_eq] at h2
  refine ⟨(xss.getD i [])[k].toNat, by omega, by rw [e2]; omega, by simpa [graphOf] using hk, by simp [graphOf]⟩

theorem graph_lt {xss : List (List Int)} {n : Nat} (hr : rowsInRange (n : Int) xss = true) : ∀ i, ∀ j ∈ graphOf xss i, j < n := by
  intro i j hj
  obtain ⟨k, hk, e⟩ := List.getElem_of_mem hj
  obtain ⟨j', h1, h2, h3, h4⟩ := graph_row hr (i := i) (k := k) (by simpa [graphOf] using hk)
  rw [h4] at e
  omega

theorem go_min (a b : Int) : (if b < a then b else a) = min a b := by omega

theorem mem_low {N n : Nat} {vd : Value} {t : St} {vs vc : Value} {cvs : List Value} {w : World} (h : Mem N n vd t vs vc cvs w) (i : Nat) (x : Int) :
    Mem N n vd (lowSt i x t) vs vc cvs (w.setCell ⟨N + 3, i, none⟩ (.int .i64 (if x < t.low i then x else t.low i))).drew := by
  rw [go_min]
  exact (h.setLow i _).drew

/-- The stack is being popped: T1 is left above i, R is gone (in that order). -/
def popMid (t : St) (A : List Nat) (i : Nat) (T1 R : List Nat) : St := { t with stack := A ++ i :: T1, on := offs t.on R }

theorem popMid_start {t : St} {A : List Nat} {i : Nat} {T : List Nat} (h : t.stack = A ++ i :: T) : popMid t A i T [] = t := by
  unfold popMid
  rw [← h, offs_nil]

theorem popMid_step (t : St) (A : List Nat) (i j : Nat) (T1 R : List Nat) :
    ({ ({ popMid t A i (T1 ++ [j]) R with stack := A ++ i :: T1 } : St) with on := upd (popMid t A i (T1 ++ [j]) R).on j false } : St) = popMid t A i T1 (R ++ [j]) := by
  simp only [popMid, offs_snoc]

theorem popMid_end {t : St} {A : List Nat} {i : Nat} {T R : List Nat} (h : t.stack = A ++ i :: T) (hi : i ∉ T) (hR : T = R.reverse) :
    ({ ({ ({ popMid t A i [] R with stack := A } : St) with on := upd (popMid t A i [] R).on i false } : St) with comps := t.comps ++ [R ++ [i]] } : St) = popSt i t := by
  have e : R = T.reverse := by rw [hR, List.reverse_reverse]
  rw [popSt_spec h hi, ← e]
  simp only [popMid, offs_snoc]

theorem own_top {w : World} {base g q cap : Nat} {A : List Nat} {j : Nat} (hq : A.length = q) (h : w.ownsRow base 3 1 (.slice (some ⟨g, 0, none⟩) (q + 1) cap) (A ++ [j]).length ((A ++ [j]).map natV)) : w.cell? ⟨g, q, none⟩ = some (.int .i64 (j : Int)) := by
  have := h.cells (g := g) rfl q (natV j) (by subst hq; simp)
  rw [Addr.add_lit, Nat.zero_add] at this
  exact this

theorem own_cap {w : World} {base e size g m k cap : Nat} {xs : List Value} (h : w.ownsRow base e size (.slice (some ⟨g, 0, none⟩) m cap) k xs) : m ≤ cap ∧ cap ≤ 9223372036854775807 := by
  rcases h.2 with ⟨h0, _⟩ | ⟨g', cap', cur, hv, _, _, h1, h2, _⟩
  · cases h0
  · cases hv
    unfold maxLen at h2
    exact ⟨h1, by omega⟩

theorem own_slice' {w : World} {base e size k m : Nat} {v : Value} {xs : List Value} (hm : m = k + 1) (h : w.ownsRow base e size v m xs) : ∃ g cap, v = .slice (some ⟨g, 0, none⟩) (k + 1) cap := by
  subst hm
  exact own_slice h

theorem mem_pop {N n : Nat} {vd : Value} {s : St} {vc : Value} {cvs : List Value} {w : World} {g cap q : Nat} {A : List Nat} {j : Nat} (hq : A.length = q) (h : Mem N n vd s (.slice (some ⟨g, 0, none⟩) (q + 1) cap) vc cvs w) (hs : s.stack = A ++ [j]) :
    Mem N n vd { ({ s with stack := A } : St) with on := upd s.on j false } (.slice (some ⟨g, 0, none⟩) q cap) vc cvs ((w.setCell ⟨N + 7, 0, none⟩ (.slice (some ⟨g, 0, none⟩) q cap)).setCell ⟨N + 5, j, none⟩ (.bool false)) := by
  subst hq
  exact (h.pop hs).setOn j false

theorem comp_pop {N : Nat} {c : List Nat} {u : Value} {g m m' cap : Nat} {cvs : List Value} {w : World} {v x : Value} {j : Nat} (h : Comp N c u (.slice (some ⟨g, 0, none⟩) m cap) cvs w) :
    Comp N c u (.slice (some ⟨g, 0, none⟩) m' cap) cvs ((w.setCell ⟨N + 7, 0, none⟩ v).setCell ⟨N + 5, j, none⟩ x) := by
  refine ⟨own_keep h.own (fun b hb hlt => ?_), h.stk, h.each⟩
  rw [low_same (N := N) (by omega) b hb (by rw [set_size]; exact hlt), low_same (N := N) (by omega) b hb hlt]

theorem new_two {w : World} {a a' : Addr} {v v' x : Value} {t : TypeId} : ∀ j u, [x][j]? = some u → (((w.setCell a v).setCell a' v').alloc (.cells #[x] t)).cell? ((⟨w.heap.size, 0, none⟩ : Addr).add j) = some u := by
  have h := cell_one_new ((w.setCell a v).setCell a' v') x t
  rw [set_size, set_size] at h
  exact h

set_option maxHeartbeats 1000000 in
set_option maxRecDepth 100000 in
theorem visit_step (N n : Nat) (vd : Value) (xss : List (List Int)) (hn : n ≤ 100000) (hx : xss.length = n) (hr : rowsInRange (n : Int) xss = true) (hll : ∀ k, (xss.getD k []).length ≤ maxLen) (f : Nat)
    (ih : ∀ (s : St) (i : Nat) (vs vc : Value) (cvs : List Value) (w : World), Inv n s → i < n → s.ord i = -1 → n - s.next ≤ f → Mem N n vd s vs vc cvs w → IntRows w N vd xss →
      Calls Try.prog 15 (visitArgs N i) w fun e w' => e = .returned (.tuple #[]) ∧ VisitEnd N n vd (visitSt (graphOf xss) f s i) w w')
    (s : St) (i : Nat) (vs vc : Value) (cvs : List Value) (w : World) (hs : Inv n s) (hi : i < n) (hv : s.ord i = -1) (hf : n - s.next ≤ f + 1) (hm : Mem N n vd s vs vc cvs w) (hd : IntRows w N vd xss) :
    Calls Try.prog 15 (visitArgs N i) w fun e w' => e = .returned (.tuple #[]) ∧ VisitEnd N n vd (visitSt (graphOf xss) (f + 1) s i) w w' := by
  have hi' : (i : Int) < (n : Int) := by omega
  have hnx := hs.next_lt hi hv
  have hst := hs.stack_le
  have HS : Hid (Inv n s) := hs
  have HV : Hid (s.ord i = -1) := hv
  have HF : Hid (n - s.next ≤ f + 1) := hf
  have HD : Hid (IntRows w N vd xss) := hd
  have HX : Hid (xss.length = n) := hx
  have HR : Hid (rowsInRange (n : Int) xss = true) := hr
  have HLL : Hid (∀ k, (xss.getD k []).length ≤ maxLen) := hll
  have HIH : Hid (∀ (s : St) (i : Nat) (vs vc : Value) (cvs : List Value) (w : World), Inv n s → i < n → s.ord i = -1 → n - s.next ≤ f → Mem N n vd s vs vc cvs w → IntRows w N vd xss →
      Calls Try.prog 15 (visitArgs N i) w fun e w' => e = .returned (.tuple #[]) ∧ VisitEnd N n vd (visitSt (graphOf xss) f s i) w w') := ih
  clear hs hv hf hd hx hr hll ih
  unfold visitArgs
  have HM : Hid (Mem N n vd s vs vc cvs w) := hm
  have c1 := hm.fix.r1.cell hi
  have f1 := hm.fix.r1.frozen i
  have c2 := hm.fix.c2
  have c3 := hm.fix.r3.cell hi
  have f3 := hm.fix.r3.frozen i
  have c4 := hm.fix.c4
  have c9 := hm.fix.c9
  clear hm
  go_enter Try.func15, Try.ntmps15
  go_wp2
  go_cut [] from 14 to 112 (fun wc => Mem N n vd (numSt i s) vs vc cvs wc ∧ Below N w wc)
  case first =>
    go_region
    go_wp2_with fail
    go_meet
    case rel =>
      refine ⟨((HM.out.setOrd i s.next).setLow i s.next).drew, (((Below.refl _ _).setCell (by show N ≤ N + 1; omega) _).setCell (by show N ≤ N + 3; omega) _).drew⟩
  case rest =>
    obtain ⟨hm1, hb1⟩ := hcut
    clear HM c1 f1 c2 c3 f3 c4 c9
    have HM : Hid (Mem N n vd (numSt i s) vs vc cvs wc) := hm1
    have HB : Hid (Below N w wc) := hb1
    have c9 : wc.cell? ⟨N + 9, 0, none⟩ = some (.int .i64 (s.next : Int)) := hm1.fix.c9
    have f9 := hm1.fix.f9
    clear hm1 hb1
    go_upto_region 1 with fail
    go_cut [] from 14 to 112 (fun wd => Mem N n vd { numSt i s with next := s.next + 1 } vs vc cvs wd ∧ Below N w wd)
    case first =>
      go_wp2_with fail
      go_meet
      case rel => exact ⟨HM.out.setNext (s.next + 1), HB.out.setCell (by show N ≤ N + 9; omega) _⟩
    case rest =>
      obtain ⟨hm1, hb1⟩ := hcut
      clear HM HB c9 f9
      have HM : Hid (Mem N n vd { numSt i s with next := s.next + 1 } vs vc cvs wc) := hm1
      have HB : Hid (Below N w wc) := hb1
      have c7 := hm1.fix.c7
      have f7 := hm1.fix.f7
      have hsz := hm1.fix.size
      clear hm1 hb1
      go_upto_region 2 with fail
      go_cut [] from 14 to 112 (fun wd => (∃ vs', Mem N n vd { numSt i s with next := s.next + 1, stack := s.stack ++ [i] } vs' vc cvs wd) ∧ Below N w wd)
      case first =>
        obtain ⟨i0, hi0, hz0, hz1, hz2⟩ := info_parts Try.info3
        have hlt := HM.out.own.stk.lt
        have HLT : Hid (∀ k, vs.ownBlock = some k → N + 12 ≤ k ∧ k < wc.heap.size) := hlt
        clear hlt
        go_wp2_with (at_builtin; refine wpList_append_own_at _ rfl (.tmp 24) (.tmp 26) 29 rfl (N + 12) 3 i0 (.int .i64 0) 1 8 Try.underlying29 hi0 hz0 hz1 hz2 rfl (by decide) vs s.stack.length (s.stack.map natV) rfl (HM.out.own.stk.alloc _) ⟨wc.heap.size, 0, none⟩ 1 1 [natV i] rfl rfl (cell_one_new _ _ _) (by simp [natV, Value.oneCell']) (by unfold maxLen; omega) (by omega) (by simp; omega) ?_; intro v' w1 hown' hgrow _ hat; obtain ⟨g', cap', rfl⟩ := own_slice hown'; have c7' := cell_grown hgrow HLT.out (by omega) c7; have f7' := frozen_grown hgrow HLT.out (by omega) c7 f7)
        go_meet
        case rel =>
          refine ⟨⟨_, HM.out.push i _ hown' hgrow hat⟩, ?_⟩
          refine Below.setCell (Below.grown (HB.out.alloc (by omega) _) hgrow (by simp; omega) (fun k hk => by have := (HLT.out k hk).1; omega)) (by show N ≤ N + 7; omega) _
      case rest =>
        obtain ⟨⟨vs', hm1⟩, hb1⟩ := hcut
        clear HM HB c7 f7 hsz
        have HM : Hid (Mem N n vd { numSt i s with next := s.next + 1, stack := s.stack ++ [i] } vs' vc cvs wc) := hm1
        have HB : Hid (Below N w wc) := hb1
        have c5 := hm1.fix.r5.cell hi
        have f5 := hm1.fix.r5.frozen i
        have c6 := hm1.fix.c6
        clear hm1 hb1
        go_upto_region 3 with fail
        go_cut [] from 14 to 112 (fun wd => (∃ vs', Mem N n vd (enterSt i s) vs' vc cvs wd) ∧ Below N w wd)
        case first =>
          go_wp2_with fail
          go_meet
          case rel => exact ⟨⟨_, HM.out.setOn i true⟩, HB.out.setCell (by show N ≤ N + 5; omega) _⟩
        case rest =>
          obtain ⟨⟨vs2, hm1⟩, hb1⟩ := hcut
          clear HM HB c5 f5 c6
          obtain ⟨ao, dcap, hvd, hc⟩ := HD.out
          subst hvd
          obtain ⟨b, off, u, hao, hbN, hcu, uo, ucap, hu, hrow⟩ := hc i (by rw [HX.out]; exact hi)
          subst hao
          subst hu
          clear hc
          have HM : Hid (Mem N n (.slice (some ⟨b, off, none⟩) xss.length dcap) (enterSt i s) vs2 vc cvs wc) := hm1
          have HB : Hid (Below N w wc) := hb1
          have c0 := hm1.fix.c0
          have cu := (hb1.cell (p := ⟨b, off + i, none⟩) hbN).trans hcu
          have HROW : Hid (∀ k, k < (xss.getD i []).length → ∃ b off, uo = some ⟨b, off, none⟩ ∧ b < N ∧ w.cell? ⟨b, off + k, none⟩ = some (.int .i64 ((xss.getD i []).getD k 0))) := hrow
          have hlen : (i : Int) < (xss.length : Int) := by rw [HX.out]; exact hi'
          have hml := HLL.out i
          unfold maxLen at hml
          obtain ⟨L, hL⟩ : ∃ L, L = (xss.getD i []).length := ⟨_, rfl⟩
          rw [← hL] at cu hml
          have HL : Hid (L = (xss.getD i []).length) := hL
          clear hm1 hb1 hrow hL hcu
          go_wp2
          clear c0 cu
          go_loopw [36] (fun c wr => ∃ k : Nat, k ≤ L ∧ c = .int .i64 k ∧ VisitEnd N n (.slice (some ⟨b, off, none⟩) xss.length dcap) (midSt (graphOf xss) f s i k) w wr) (fun c _ => L - (intOf c).toNat)
          case atStart => exact ⟨0, Nat.zero_le _, rfl, ⟨_, _, _, by rw [midSt_zero]; exact HM.out⟩, HB.out⟩
          case round =>
            obtain ⟨k, hk, rfl, ⟨vs3, vc3, cvs3, hm3⟩, hb3⟩ := hrel
            clear HM HB
            by_cases hlt : k < L
            · obtain ⟨b', off', huo, hbN', hcell⟩ := HROW.out k (by rw [← HL.out]; exact hlt)
              subst huo
              obtain ⟨j, hjn, hjx, hkg, hgj⟩ := graph_row HR.out (i := i) (k := k) (by rw [← HL.out]; exact hlt)
              have hmid := mid_at (graph_lt HR.out) HS.out hi HV.out HF.out k
              have hsucc := midSt_succ (graphOf xss) f s i k hkg
              rw [hgj] at hsucc
              obtain ⟨t, ht⟩ : ∃ t, t = midSt (graphOf xss) f s i k := ⟨_, rfl⟩
              rw [← ht] at hm3 hmid hsucc
              have hcj := (hb3.cell (p := ⟨b', off' + k, none⟩) hbN').trans hcell
              rw [hjx] at hcj
              have HB : Hid (Below N w wr) := hb3
              have HM : Hid (Mem N n (.slice (some ⟨b, off, none⟩) xss.length dcap) t vs3 vc3 cvs3 wr) := hm3
              have HMID : Hid (Mid n s i t) := hmid
              have HSUCC : Hid (midSt (graphOf xss) f s i (k + 1) = edgeSt (visitSt (graphOf xss) f) i t j) := hsucc
              have c1 := hm3.fix.r1.cell hjn
              have c2 := hm3.fix.c2
              have c5 := hm3.fix.r5.cell hjn
              have c6 := hm3.fix.c6
              have c10 := hm3.fix.c10
              have hjn' : (j : Int) < (n : Int) := by omega
              obtain ⟨x, hx⟩ : ∃ x, x = t.ord j := ⟨_, rfl⟩
              have HXJ : Hid (x = t.ord j) := hx
              rw [← hx] at c1
              clear ht hcell hjx hmid hsucc hb3 hm3 hkg hgj hx
              by_cases h1 : x = -1
              · have hx1 : (x == -1) = true := by simp [h1]
                have HX1 : Hid (x = -1) := h1
                clear h1 c5 c6
                unfold visitFn at c10
                have hcall := HIH.out t j vs3 vc3 cvs3 wr HMID.out.inv hjn (by rw [← HXJ.out]; exact HX1.out) (by have := HMID.out.lt; have := HF.out; omega) HM.out (HD.out.below HB.out)
                unfold visitArgs at hcall
                go_wp2_with (go_at_call 15; refine hcall.mono ?_; rintro e w2 ⟨rfl, hve⟩)
                clear hcall c1 c2 c10 hcj HM
                obtain ⟨⟨vs4, vc4, cvs4, hm4⟩, hb4⟩ := hve
                have HM : Hid (Mem N n (.slice (some ⟨b, off, none⟩) xss.length dcap) (visitSt (graphOf xss) f t j) vs4 vc4 cvs4 w2) := hm4
                have HB2 : Hid (Below N wr w2) := hb4
                have c3i := hm4.fix.r3.cell hi
                have f3i := hm4.fix.r3.frozen i
                have c3j := hm4.fix.r3.cell hjn
                have c4 := hm4.fix.c4
                clear hm4 hb4
                go_region
                go_wp2
                go_roundw
                case rel =>
                  refine ⟨k + 1, by omega, by go_num, ⟨vs4, vc4, cvs4, ?_⟩, ((HB.out.trans HB2.out).setCell (by show N ≤ N + 3; omega) _).drew⟩
                  rw [HSUCC.out, edgeSt, if_pos (by rw [← HXJ.out]; exact HX1.out)]
                  exact mem_low HM.out i _
                case measure => simp [intOf]; omega
              · have hx1 : (x == -1) = false := by simp [h1]
                have HX1 : Hid (¬ x = -1) := h1
                clear h1 c10
                have c3i := HM.out.fix.r3.cell hi
                have f3i := HM.out.fix.r3.frozen i
                have c4 := HM.out.fix.c4
                by_cases hon : t.on j = true
                · have HON : Hid (t.on j = true) := hon
                  rw [hon] at c5
                  clear hon
                  go_wp2_with fail
                  go_region
                  go_wp2
                  go_roundw
                  case rel =>
                    refine ⟨k + 1, by omega, by go_num, ⟨vs3, vc3, cvs3, ?_⟩, (HB.out.setCell (by show N ≤ N + 3; omega) _).drew⟩
                    rw [HSUCC.out, edgeSt, if_neg (by rw [← HXJ.out]; exact HX1.out), if_pos HON.out, ← HXJ.out]
                    exact mem_low HM.out i _
                  case measure => simp [intOf]; omega
                · have HON : Hid (¬ t.on j = true) := hon
                  rw [Bool.eq_false_iff.2 hon] at c5
                  clear hon
                  go_wp2
                  go_roundw
                  case rel =>
                    refine ⟨k + 1, by omega, by go_num, ⟨vs3, vc3, cvs3, ?_⟩, HB.out⟩
                    rw [HSUCC.out, edgeSt, if_neg (by rw [← HXJ.out]; exact HX1.out), if_neg HON.out]
                    exact HM.out
                  case measure => simp [intOf]; omega
            · have hkL : k = (graphOf xss i).length := by have := HL.out; simp only [graphOf, List.length_map]; omega
              have hmid := mid_at (graph_lt HR.out) HS.out hi HV.out HF.out k
              have hall := midSt_all (graphOf xss) f s i
              rw [← hkL] at hall
              obtain ⟨t, ht⟩ : ∃ t, t = midSt (graphOf xss) f s i k := ⟨_, rfl⟩
              rw [← ht] at hm3 hmid hall
              have HALL : Hid (visitSt (graphOf xss) (f + 1) s i = leaveSt i t) := hall
              have HB : Hid (Below N w wr) := hb3
              have HM : Hid (Mem N n (.slice (some ⟨b, off, none⟩) xss.length dcap) t vs3 vc3 cvs3 wr) := hm3
              have HMID : Hid (Mid n s i t) := hmid
              have c1 := hm3.fix.r1.cell hi
              have c2 := hm3.fix.c2
              have c3 := hm3.fix.r3.cell hi
              have c4 := hm3.fix.c4
              obtain ⟨x, hx⟩ : ∃ x, x = t.low i := ⟨_, rfl⟩
              obtain ⟨y, hy⟩ : ∃ y, y = t.ord i := ⟨_, rfl⟩
              have HXL : Hid (x = t.low i) := hx
              have HYO : Hid (y = t.ord i) := hy
              rw [← hx] at c3
              rw [← hy] at c1
              clear hkL hmid hall ht hb3 hm3 hx hy
              by_cases hxy : x = y
              · have ht : (x != y) = false := by simp [hxy]
                have HXY : Hid (x = y) := hxy
                clear hxy
                go_upto_region 13 with fail
                go_region
                go_wp2_with fail
                clear c1 c2 c3 c4 ht
                obtain ⟨T, hT, hiT⟩ := HMID.out.split
                have HT : Hid (t.stack = s.stack ++ i :: T) := hT
                have HIT : Hid (i ∉ T) := hiT
                have hms := HMID.out.inv.stack_le
                have hmn := HMID.out.inv.next_le
                have hmc := HMID.out.inv.stack_comps_le
                have hsT : t.stack.length = s.stack.length + T.length + 1 := by rw [hT]; simp; omega
                have hsT' : s.stack.length + T.length + 1 + t.comps.length ≤ 100000 := by omega
                have hlen : cvs3.length = t.comps.length := HM.out.own.len
                have HLEN : Hid (cvs3.length = t.comps.length) := hlen
                clear hT hiT hms hmn hmc hsT hlen
                go_loopg [12] (T.length + 1) (fun gk u wp => ∃ T1 R vs5, T = T1 ++ R.reverse ∧ gk = T1.length + 1 ∧ Mem N n (.slice (some ⟨b, off, none⟩) xss.length dcap) (popMid t s.stack i T1 R) vs5 vc3 cvs3 wp ∧ Comp N R u vs5 cvs3 wp ∧ Below N w wp)
                case atStart => exact ⟨T, [], vs3, by simp, rfl, by rw [popMid_start HT.out]; exact HM.out.drew, comp_nil _ _ _ _, HB.out.drew⟩
                case round =>
                  obtain ⟨T1, R, vs5, hTT, hgk, hm5, hc5, hb5⟩ := hrel
                  clear HM HB
                  obtain ⟨i0, hi0, hz0, hz1, hz2⟩ := info_parts Try.info3
                  have HTT : Hid (T = T1 ++ R.reverse) := hTT
                  have HGK : Hid (gk = T1.length + 1) := hgk
                  have HB : Hid (Below N w wr) := hb5
                  have hl1 : s.stack.length + T1.length + R.length + 1 + t.comps.length ≤ 100000 := by rw [hTT] at hsT'; simp at hsT'; omega
                  rcases List.eq_nil_or_concat T1 with hT1 | ⟨T3, j, hT1⟩
                  · subst hT1
                    obtain ⟨q, hq⟩ : ∃ q, s.stack.length = q := ⟨_, rfl⟩
                    obtain ⟨g, cap, hv5⟩ := own_slice' (k := q) (by rw [← hq]; simp [popMid]) hm5.own.stk
                    subst hv5
                    have c7 := hm5.fix.c7
                    have f7 := hm5.fix.f7
                    have ctop : wr.cell? ⟨g, q, none⟩ = some (.int .i64 (i : Int)) := own_top (A := s.stack) hq hm5.own.stk
                    have c5 := hm5.fix.r5.cell hi
                    have f5 := hm5.fix.r5.frozen i
                    have c6 := hm5.fix.c6
                    have hsz := hm5.fix.size
                    have hcap := own_cap hm5.own.stk
                    have hm6 := mem_pop (A := s.stack) (j := i) hq hm5 rfl
                    have hc6 := comp_pop (m' := q) (v := .slice (some ⟨g, 0, none⟩) q cap) (x := .bool false) (j := i) hc5
                    have HM6 : Hid (Mem N n (.slice (some ⟨b, off, none⟩) xss.length dcap) _ _ _ _ _) := hm6
                    have HC6 : Hid (Comp N _ _ _ _ _) := hc6
                    have HLT : Hid (∀ k, u12.ownBlock = some k → N + 12 ≤ k ∧ k < ((wr.setCell ⟨N + 7, 0, none⟩ (.slice (some ⟨g, 0, none⟩) q cap)).setCell ⟨N + 5, i, none⟩ (.bool false)).heap.size) := hc6.own.lt
                    have c8 : ((wr.setCell ⟨N + 7, 0, none⟩ (.slice (some ⟨g, 0, none⟩) q cap)).setCell ⟨N + 5, i, none⟩ (.bool false)).cell? ⟨N + 8, 0, none⟩ = some vc3 := hm6.fix.c8
                    have f8 : ((wr.setCell ⟨N + 7, 0, none⟩ (.slice (some ⟨g, 0, none⟩) q cap)).setCell ⟨N + 5, i, none⟩ (.bool false)).frozen? ⟨N + 8, 0, none⟩ = false := hm6.fix.f8
                    have HC8 := And.intro (show Hid _ from c8) (show Hid _ from f8)
                    have hl3 : R.length ≤ 100000 := by omega
                    clear hm5 hc5 hb5 hm6 hc6 hTT hgk c8 f8
                    go_upto_region 20 with (at_builtin; refine wpList_append_own_at _ rfl (.tmp 102) (.tmp 104) 29 rfl (N + 12) 3 i0 (.int .i64 0) 1 8 Try.underlying29 hi0 hz0 hz1 hz2 rfl (by decide) u12 R.length (R.map natV) rfl (HC6.out.own.alloc _) ⟨wr.heap.size, 0, none⟩ 1 1 [natV i] rfl rfl new_two (by simp [natV, Value.oneCell']) (by unfold maxLen; omega) (by omega) (by simp; omega) ?_; intro v' w1 hown' hgrow _ hat; obtain ⟨g', cap', rfl⟩ := own_slice hown')
                    have hg := HM6.out.gather HC6.out i _ hown' hgrow hat HLEN.out
                    have HM7 : Hid (Mem N n (.slice (some ⟨b, off, none⟩) xss.length dcap) _ _ _ _ w1) := hg.1
                    have HC7 : Hid (Comp N _ _ _ _ w1) := hg.2
                    have c8 := hg.1.fix.c8
                    have f8 := hg.1.fix.f8
                    have hsz1 := hg.1.fix.size
                    have HB1 : Hid (Below N w w1) := Below.grown (((HB.out.setCell (by show N ≤ N + 7; omega) _).setCell (by show N ≤ N + 5; omega) _).alloc (by simp; omega) _) hgrow (by simp; omega) (fun k hk => by have := (HLT.out k hk).1; omega)
                    have HLT2 : Hid (∀ k, vc3.ownBlock = some k → N + 12 ≤ k ∧ k < w1.heap.size) := hg.1.own.cmp.lt
                    obtain ⟨i9, hi9, hy0, hy1, hy2⟩ := info_parts Try.info29
                    clear hg HM6 HC6 HLT HC8 hown' hgrow hat c7 f7 ctop c5 f5 c6
                    go_wp2_with (at_builtin; refine wpList_append_own_at _ rfl (.tmp 109) (.tmp 111) 23 rfl (N + 12) 29 i9 (.slice none 0 0) 1 24 Try.underlying23 hi9 hy0 hy1 hy2 rfl (by decide) vc3 t.comps.length cvs3 rfl (HM7.out.own.cmp.alloc _) ⟨w1.heap.size, 0, none⟩ 1 1 [_] rfl rfl (cell_one_new _ _ _) (by simp [Value.oneCell']) (by unfold maxLen; omega) (by omega) (by simp; omega) ?_; intro v2 w3 hown2 hgrow2 _ hat2; obtain ⟨g3, cap3, rfl⟩ := own_slice hown2; have c8' := cell_grown hgrow2 HLT2.out (by omega) c8; have f8' := frozen_grown hgrow2 HLT2.out (by omega) c8 f8)
                    go_end0
                    have hfin := HM7.out.add HC7.out _ hown2 hgrow2
                    refine ⟨rfl, ?_, ?_⟩
                    · rw [HALL.out, leaveSt, if_pos (by rw [← HXL.out, ← HYO.out]; exact HXY.out), ← popMid_end HT.out HIT.out HTT.out]
                      exact ⟨_, _, _, hfin⟩
                    · exact (Below.grown (HB1.out.alloc (by omega) _) hgrow2 (by simp; omega) (fun k hk => by have := (HLT2.out k hk).1; omega)).setCell (by show N ≤ N + 8; omega) _
                  · rw [List.concat_eq_append] at hT1
                    subst hT1
                    have hjm : j ∈ t.stack := by rw [HT.out, HTT.out]; simp
                    have hjn : j < n := HMID.out.inv.lt j (by simp [seenL, hjm])
                    have hji : j ≠ i := fun e => HIT.out (by rw [HTT.out, ← e]; simp)
                    have hji' : ((j : Int) == (i : Int)) = false := beq_eq_false_iff_ne.2 (by omega)
                    have hjn' : (j : Int) < (n : Int) := by omega
                    obtain ⟨q, hq⟩ : ∃ q, (s.stack ++ i :: T3).length = q := ⟨_, rfl⟩
                    have hstk : (popMid t s.stack i (T3 ++ [j]) R).stack = (s.stack ++ i :: T3) ++ [j] := by simp [popMid]
                    obtain ⟨g, cap, hv5⟩ := own_slice' (k := q) (by rw [hstk, List.length_append, hq]; rfl) hm5.own.stk
                    subst hv5
                    have c7 := hm5.fix.c7
                    have f7 := hm5.fix.f7
                    have ctop : wr.cell? ⟨g, q, none⟩ = some (.int .i64 (j : Int)) := own_top (A := s.stack ++ i :: T3) hq (by have := hm5.own.stk; rw [hstk] at this; exact this)
                    have c5 := hm5.fix.r5.cell hjn
                    have f5 := hm5.fix.r5.frozen j
                    have c6 := hm5.fix.c6
                    have hsz := hm5.fix.size
                    have hcap := own_cap hm5.own.stk
                    have hm6 := mem_pop (A := s.stack ++ i :: T3) (j := j) hq hm5 hstk
                    have hc6 := comp_pop (m' := q) (v := .slice (some ⟨g, 0, none⟩) q cap) (x := .bool false) (j := j) hc5
                    rw [popMid_step] at hm6
                    have HM6 : Hid (Mem N n (.slice (some ⟨b, off, none⟩) xss.length dcap) _ _ _ _ _) := hm6
                    have HC6 : Hid (Comp N _ _ _ _ _) := hc6
                    have HLT : Hid (∀ k, u12.ownBlock = some k → N + 12 ≤ k ∧ k < ((wr.setCell ⟨N + 7, 0, none⟩ (.slice (some ⟨g, 0, none⟩) q cap)).setCell ⟨N + 5, j, none⟩ (.bool false)).heap.size) := hc6.own.lt
                    have hl3 : R.length ≤ 100000 := by omega
                    have hl4 : (s.stack ++ i :: T3).length = s.stack.length + T3.length + 1 := by simp; omega
                    have hl5 : (T3 ++ [j]).length = T3.length + 1 := by simp
                    have hq' : q ≤ 100000 := by omega
                    clear hm5 hc5 hb5 hm6 hc6 hTT hgk hstk hji hjm hq hl4 hl5
                    go_wp2_with (at_builtin; refine wpList_append_own_at _ rfl (.tmp 102) (.tmp 104) 29 rfl (N + 12) 3 i0 (.int .i64 0) 1 8 Try.underlying29 hi0 hz0 hz1 hz2 rfl (by decide) u12 R.length (R.map natV) rfl (HC6.out.own.alloc _) ⟨wr.heap.size, 0, none⟩ 1 1 [natV j] rfl rfl new_two (by simp [natV, Value.oneCell']) (by unfold maxLen; omega) (by omega) (by simp; omega) ?_; intro v' w1 hown' hgrow _ hat; obtain ⟨g', cap', rfl⟩ := own_slice hown')
                    have hg := HM6.out.gather HC6.out j _ hown' hgrow hat HLEN.out
                    have HB1 : Hid (Below N w w1) := Below.grown (((HB.out.setCell (by show N ≤ N + 7; omega) _).setCell (by show N ≤ N + 5; omega) _).alloc (by simp; omega) _) hgrow (by simp; omega) (fun k hk => by have := (HLT.out k hk).1; omega)
                    go_roundg (T3.length + 1)
                    case measure => have := HGK.out; simp at this; omega
                    case rel => exact ⟨T3, R ++ [j], _, by rw [HTT.out]; simp, rfl, hg.1, hg.2, HB1.out⟩
              · have ht : (x != y) = true := by simp [hxy]
                have HXY : Hid (¬ x = y) := hxy
                clear hxy
                go_upto_region 13 with fail
                go_region
                go_wp2_with fail
                refine bodyPost_ret (v := .tuple #[]) (results_none rfl _ _ _) rfl ⟨rfl, ⟨vs3, vc3, cvs3, ?_⟩, HB.out.drew⟩
                rw [HALL.out, leaveSt, if_neg (by rw [← HXL.out, ← HYO.out]; exact HXY.out)]
                exact HM.out.drew

/-- THE SEARCH FROM ONE NODE: the closure 'visit' computes the plain function. -/
theorem visit_any (N n : Nat) (vd : Value) (xss : List (List Int)) (hn : n ≤ 100000) (hx : xss.length = n) (hr : rowsInRange (n : Int) xss = true) (hll : ∀ k, (xss.getD k []).length ≤ maxLen) :
    ∀ (f : Nat) (s : St) (i : Nat) (vs vc : Value) (cvs : List Value) (w : World), Inv n s → i < n → s.ord i = -1 → n - s.next ≤ f → Mem N n vd s vs vc cvs w → IntRows w N vd xss →
      Calls Try.prog 15 (visitArgs N i) w fun e w' => e = .returned (.tuple #[]) ∧ VisitEnd N n vd (visitSt (graphOf xss) f s i) w w'
  | 0, s, i, _, _, _, _, hs, hi, hv, hf, _, _ => by have := hs.next_lt hi hv; omega
  | f + 1, s, i, vs, vc, cvs, w, hs, hi, hv, hf, hm, hd => visit_step N n vd xss hn hx hr hll f (visit_any N n vd xss hn hx hr hll f) s i vs vc cvs w hs hi hv hf hm hd

end Go.Proofs.Qxb6627646a
