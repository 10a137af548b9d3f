import Derived.Test.Qxb6627646aScc
namespace Go.Proofs.Qxb6627646a
open Go.RowKit Go.Deep
set_option linter.unusedVariables false

/-- The order, as the plain function gives it. -/
def orderL (xss : List (List Int)) (n : Nat) : List Nat := (rootsSt (graphOf xss) n n).comps.flatten
def ints (l : List Nat) : List Int := l.map Int.ofNat

theorem intRow_of_own {w : World} {base : Nat} {v : Value} {l : List Nat} (h : w.ownsRow base 3 1 v l.length (l.map natV)) : IntRow w w.heap.size v (ints l) := by
  obtain ⟨ao, cap, hv⟩ := own_shape h
  refine ⟨ao, cap, by rw [hv]; simp [ints], fun k hk => ?_⟩
  have hk' : k < l.length := by simpa [ints] using hk
  obtain ⟨q, hq⟩ : ∃ q, l.length = q + 1 := ⟨l.length - 1, by omega⟩
  obtain ⟨g, cap', hv'⟩ := own_slice' (k := q) hq h
  have hc := h.cells (g := g) (by rw [hv']; rfl) k (natV l[k]) (by simp [hk'])
  rw [hv] at hv'
  have hao : ao = some ⟨g, 0, none⟩ := by injection hv'
  subst hao
  rw [Addr.add_lit] at hc
  refine ⟨g, 0, rfl, World.block_lt_of_cell? _ _ hc, ?_⟩
  rw [hc]
  simp [ints, natV, hk']

/-- The components that have been gathered: the first k. -/
def flatK (cs : List (List Nat)) (k : Nat) : List Nat := (cs.take k).flatten
theorem flatK_succ (cs : List (List Nat)) (k : Nat) (c : List Nat) (h : cs[k]? = some c) : flatK cs (k + 1) = flatK cs k ++ c := by
  have hk := (List.getElem?_eq_some_iff.1 h).1
  have he : cs[k] = c := (List.getElem?_eq_some_iff.1 h).2
  simp only [flatK, List.take_succ_eq_append_getElem hk, List.flatten_append, he, List.flatten_cons, List.flatten_nil, List.append_nil]
theorem flatK_le (cs : List (List Nat)) (k : Nat) : (flatK cs k).length ≤ cs.flatten.length := by
  have : cs.flatten = flatK cs k ++ (cs.drop k).flatten := by rw [flatK, ← List.flatten_append, List.take_append_drop]
  rw [this, List.length_append]; omega

/-- At the head of Order's loop. -/
structure Gath (N0 : Nat) (w w2 : World) (xs : List Nat) (vo : Value) (wr : World) : Prop where
  own : wr.ownsRow w.heap.size 3 1 vo xs.length (xs.map natV)
  kept : ∀ b, N0 ≤ b → b < w2.heap.size → wr.heap[b]? = w2.heap[b]?
  far : ∀ g, vo.ownBlock = some g → g < N0 ∨ w2.heap.size ≤ g
  size : w2.heap.size ≤ wr.heap.size
  below : Below w.heap.size w wr

theorem Gath.step {N0 : Nat} {w w2 wr w3 : World} {xs ys : List Nat} {vo v' : Value} (h : Gath N0 w w2 xs vo wr) (hown : w3.ownsRow w.heap.size 3 1 v' (xs.length + ys.length) (xs.map natV ++ ys.map natV)) (hg : wr.grownBy w3 vo.ownBlock)
    (hat : v'.ownBlock = vo.ownBlock ∨ v'.ownBlock = some wr.heap.size) (hw : w.heap.size ≤ w2.heap.size) : Gath N0 w w2 (xs ++ ys) v' w3 := by
  have hs := h.size
  refine ⟨by simpa using hown, fun b h1 h2 => ?_, fun g hg' => ?_, Nat.le_trans hs hg.size, h.below.grown hg (by omega) (fun k hk => (h.own.lt k hk).1)⟩
  · rw [hg.block b (by omega) (fun e => by rcases h.far b e.symm with h3 | h3 <;> omega)]
    exact h.kept b h1 h2
  · rcases hat with e | e
    · exact h.far g (by rw [← e]; exact hg')
    · rw [e] at hg'
      simp only [Option.some.injEq] at hg'
      right; omega

/-- What Order leaves. -/
def OrderEnd (l : List Nat) (w w' : World) (e : Ending) : Prop :=
  ∃ ao cap, e = .returned (.slice ao l.length cap) ∧ l.length ≤ cap ∧ cap ≤ 9223372036854775807 ∧ IntRow w' w'.heap.size (.slice ao l.length cap) (ints l) ∧ Below w.heap.size w w'

theorem ret_slice {a : Option Addr} {k k' c : Nat} (h : k = k') : Ending.returned (.slice a k c) = .returned (.slice a k' c) := by rw [h]

theorem own_room {w : World} {base e size k m cap : Nat} {ao : Option Addr} {xs : List Value} (h : w.ownsRow base e size (.slice ao m cap) k xs) : m ≤ cap ∧ cap ≤ 9223372036854775807 := by
  rcases h.2 with ⟨h0, _⟩ | ⟨g', cap', cur, hv, _, _, h1, h2, _⟩
  · cases h0; omega
  · cases hv
    unfold maxLen at h2
    exact ⟨h1, by omega⟩

set_option maxHeartbeats 1000000 in
set_option maxRecDepth 100000 in
theorem order_any (vm v1 v2 : Value) (xss : List (List Int)) (n : Nat) (w : World) (hn : n ≤ 100000) (hx : xss.length = n) (hr : rowsInRange (n : Int) xss = true) (hll : ∀ k, (xss.getD k []).length ≤ maxLen) (hd : IntRows w w.heap.size v1 xss) :
    Calls Try.prog 8 #[.agg #[vm, v1, v2]] w fun e w' => OrderEnd (orderL xss n) w w' e := by
  have HD : Hid (IntRows w w.heap.size v1 xss) := hd
  obtain ⟨ao, dcap, hvd, hc⟩ := hd
  subst hvd
  have HX : Hid (xss.length = n) := hx
  have HR : Hid (rowsInRange (n : Int) xss = true) := hr
  have HLL : Hid (∀ k, (xss.getD k []).length ≤ maxLen) := hll
  rw [hx]
  rw [hx] at HD
  obtain ⟨i0, hi0, hz0, hz1, hz2⟩ := info_parts Try.info3
  clear hc hll hr hx
  go_enter Try.func8, Try.ntmps8
  go_upto_region 2 with (at_make; refine wpList_make_own _ rfl (.const (.int .i64 0)) (.tmp 8) 29 rfl w.heap.size 3 i0 (.int .i64 0) 1 Try.underlying29 hi0 hz0 hz1 .i64 .i64 n n rfl rfl rfl (by rw [hz2]; omega) (by unfold maxLen; omega) (by simp) ?_; intro w1 hown1 hgrow1)
  have hal : (w.alloc (.cells #[vm, .slice ao n dcap, v2] 28)).heap.size = w.heap.size + 1 := by simp
  rw [hal] at hown1
  clear hal
  have hsz1 : w.heap.size + 1 ≤ w1.heap.size := by have := hgrow1.size; simpa using this
  have hb1 : Below w.heap.size w w1 := Below.grown ((Below.refl _ _).alloc (Nat.le_refl _) _) hgrow1 (by simp) (fun k hk => by cases hk)
  have cbox : w1.cell? ⟨w.heap.size, 1, none⟩ = some (.slice ao n dcap) := hgrow1.cell (a := ⟨w.heap.size, 1, none⟩) (by simp) (by simp)
  have hltv := hown1.lt (w.heap.size + 1) rfl
  have HB1 : Hid (Below w.heap.size w w1) := hb1
  have HO1 : Hid (w1.ownsRow w.heap.size 3 1 (.slice (some ⟨w.heap.size + 1, 0, none⟩) 0 n) 0 []) := hown1
  have hscc := scc_any (.slice ao n dcap) xss n w1 hn HX.out HR.out HLL.out ((HD.out.below hb1).mono (by omega))
  clear hown1 hgrow1 hb1
  go_wp2_with (go_at_call 14; refine hscc.mono ?_; rintro e w2 ⟨vc, cvs, rfl, hcmp, heach, hb2⟩; obtain ⟨cao, ccap, rfl⟩ := own_shape hcmp)
  have hinv := (roots_inv n (graphOf xss) (graph_lt HR.out) n (Nat.le_refl _)).1
  obtain ⟨cs, hcs⟩ : ∃ cs, cs = (rootsSt (graphOf xss) n n).comps := ⟨_, rfl⟩
  have hcl : cs.flatten.length ≤ 100000 := by
    have h1 := hinv.next_le
    rw [hinv.nx] at h1
    simp only [seenL, List.length_append] at h1
    rw [hcs]; omega
  have hcl2 : cs.length ≤ 100000 := by
    have h1 := hinv.next_le
    have h2 := hinv.comps_le
    rw [hcs]; omega
  have HNE : Hid (∀ c ∈ cs, c ≠ []) := by rw [hcs]; exact hinv.ne
  have HCS : Hid (cs = (rootsSt (graphOf xss) n n).comps) := hcs
  rw [← hcs] at hcmp heach
  rw [← hcs]
  have HCMP : Hid (w2.ownsRow (w1.heap.size + 12) 29 1 (.slice cao cs.length ccap) cs.length cvs) := hcmp
  have HEACH : Hid (∀ (k : Nat) (c : List Nat), cs[k]? = some c → ∃ u, cvs[k]? = some u ∧ w2.ownsRow (w1.heap.size + 12) 3 1 u c.length (c.map natV)) := heach
  have HG : Hid (Gath w1.heap.size w w2 [] (.slice (some ⟨w.heap.size + 1, 0, none⟩) 0 n) w2) := ⟨own_keep HO1.out (fun b _ hlt => hb2.block b hlt), fun _ _ _ => rfl, fun g hg => .inl (by simp [Value.ownBlock] at hg; omega), Nat.le_refl _, HB1.out.trans (hb2.mono (by omega))⟩
  have hsz2 := hb2.size
  clear hscc hcmp heach hcs hinv cbox hb2 HO1 HB1
  go_loopw [14, 3] (fun c vo wr => ∃ k : Nat, k ≤ cs.length ∧ c = .int .i64 k ∧ Gath w1.heap.size w w2 (flatK cs k) vo wr) (fun c _ _ => cs.length - (intOf c).toNat)
  case atStart => exact ⟨0, Nat.zero_le _, rfl, by simpa [flatK] using HG.out⟩
  case round =>
    obtain ⟨k, hk, rfl, hG⟩ := hrel
    clear HG
    have HG : Hid (Gath w1.heap.size w w2 (flatK cs k) u3 wr) := hG
    by_cases hlt : k < cs.length
    · have hgk : cs[k]? = some cs[k] := by simp [hlt]
      have hne := HNE.out cs[k] (List.getElem_mem hlt)
      obtain ⟨c, hc⟩ : ∃ c, c = cs[k] := ⟨_, rfl⟩
      rw [← hc] at hgk hne
      obtain ⟨u, hu, hou⟩ := HEACH.out k c hgk
      obtain ⟨q, hq⟩ : ∃ q, c.length = q + 1 := ⟨c.length - 1, by have := List.length_pos_iff.2 hne; omega⟩
      obtain ⟨ug, ucap, hus⟩ := own_slice' (k := q) hq hou
      subst hus
      obtain ⟨q2, hq2⟩ : ∃ q2, cs.length = q2 + 1 := ⟨cs.length - 1, by omega⟩
      obtain ⟨cg, ccap', hcsl⟩ := own_slice' (k := q2) hq2 HCMP.out
      have hcao : cao = some ⟨cg, 0, none⟩ := by injection hcsl
      subst hcao
      have hkeep : ∀ b, w1.heap.size + 12 ≤ b → b < w2.heap.size → wr.heap[b]? = w2.heap[b]? := fun b h1 h2 => hG.kept b (by omega) h2
      have hcmp' := own_keep HCMP.out hkeep
      have hou' := own_keep hou hkeep
      have ccell : wr.cell? ⟨cg, k, none⟩ = some (.slice (some ⟨ug, 0, none⟩) (q + 1) ucap) := by
        have := hcmp'.cells (g := cg) rfl k _ hu
        rwa [Addr.add_lit, Nat.zero_add] at this
      have hnews : ∀ j x, (c.map natV)[j]? = some x → wr.cell? ((⟨ug, 0, none⟩ : Addr).add j) = some x := hou'.cells (g := ug) rfl
      have HNEWS : Hid (∀ j x, (c.map natV)[j]? = some x → wr.cell? ((⟨ug, 0, none⟩ : Addr).add j) = some x) := hnews
      have hfl := flatK_succ cs k c hgk
      have hle := flatK_le cs (k + 1)
      rw [hfl] at hle
      simp only [List.length_append] at hle
      have HFL : Hid (flatK cs (k + 1) = flatK cs k ++ c) := hfl
      have HQ : Hid (c.length = q + 1) := hq
      have hGs := hG.size
      clear hG hgk hne hc hu hou hcsl hkeep hcmp' hou' hnews hfl hq2
      rw [hq] at hle
      clear hq
      go_wp2_with (at_builtin; refine wpList_append_own_at _ rfl (.tmp 18) (.tmp 19) 29 rfl w.heap.size 3 i0 (.int .i64 0) 1 8 Try.underlying29 hi0 hz0 hz1 hz2 rfl (by decide) u3 (flatK cs k).length ((flatK cs k).map natV) rfl HG.out.own ⟨ug, 0, none⟩ (q + 1) ucap (c.map natV) rfl (by rw [List.length_map, HQ.out]; simp) HNEWS.out (by intro x hx; obtain ⟨y, _, rfl⟩ := List.mem_map.1 hx; rfl) (by unfold maxLen; omega) (by omega) (by omega) ?_; intro v' w3 hown' hgrow _ hat)
      go_roundw
      case rel =>
        refine ⟨k + 1, by omega, by go_num, ?_⟩
        rw [HFL.out]
        exact HG.out.step (by rw [HQ.out]; exact hown') hgrow hat (by omega)
      case measure => simp [intOf]; omega
    · obtain ⟨vao, vcap, hvo⟩ := own_shape hG.own
      subst hvo
      clear hG
      go_wp2
      go_ret
      have hkc : k = cs.length := by omega
      have hfl : flatK cs k = orderL xss n := by rw [hkc, flatK, List.take_of_length_le (Nat.le_refl _), HCS.out]; rfl
      have hro := own_room HG.out.own
      have hir := intRow_of_own HG.out.own
      rw [hfl] at hro hir
      exact ⟨vao, vcap, ret_slice (by rw [hfl]), hro.1, hro.2, hir, HG.out.below⟩

end Go.Proofs.Qxb6627646a
