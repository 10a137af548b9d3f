import Derived.Test.Qxb6627646aDfs
import Derived.Test.Qxb6627646aOrder
namespace Go.Proofs.Qxb6627646a
open Go.RowKit Go.Deep
set_option linter.unusedVariables false

/-- zzPostorder's state in memory: the marks; what is written down; the stack's nodes and next edges, bottom first. -/
structure Pst (N n : Nat) (d : Df) (ns ps : List Nat) (vo vn vx : Value) (w wr : World) : Prop where
  seen : wr.rowIs N 4 n (fun j => .bool (d.seen j))
  out : wr.ownsRow (N + 1) 3 1 vo d.out.length (d.out.map natV)
  nodes : wr.ownsRow (N + 1) 3 1 vn ns.length (ns.map natV)
  nexts : wr.ownsRow (N + 1) 3 1 vx ps.length (ps.map natV)
  a1 : Apart vo vn
  a2 : Apart vo vx
  a3 : Apart vn vx
  size : N + 1 ≤ wr.heap.size
  below : Below N w wr

theorem other_kept {w w1 : World} {base : Nat} {o : Obj} {va vb : Value} {k : Nat} {xs : List Value} (h : w.ownsRow base 3 1 vb k xs) (hg : (w.alloc o).grownBy w1 va.ownBlock) (ha : Apart vb va) : w1.ownsRow base 3 1 vb k xs := (h.alloc o).kept hg ha.out

theorem new_apart {w : World} {base : Nat} {o : Obj} {va vb v' : Value} {k : Nat} {xs : List Value} (h : w.ownsRow base 3 1 vb k xs) (ha : Apart va vb) (hat : v'.ownBlock = va.ownBlock ∨ v'.ownBlock = some (w.alloc o).heap.size) : Apart v' vb := by
  intro b hb hb'
  rcases hat with e | e
  · exact ha b (by rw [← e]; exact hb) hb'
  · rw [e] at hb
    have := (h.lt b hb').2
    simp only [Option.some.injEq] at hb
    simp at hb
    omega

section
variable {N n : Nat} {d : Df} {ns ps : List Nat} {vo vn vx : Value} {w wr : World}

theorem Pst.mark (h : Pst N n d ns ps vo vn vx w wr) (j : Nat) : Pst N n (markD j d) ns ps vo vn vx w (wr.setCell ⟨N, j, none⟩ (.bool true)) := by
  have hk : ∀ b, N + 1 ≤ b → b < wr.heap.size → (wr.setCell ⟨N, j, none⟩ (.bool true)).heap[b]? = wr.heap[b]? := fun b hb _ => blk_setCell_other _ _ _ _ (by show b ≠ N; omega)
  refine ⟨(h.seen.set j _).congr (fun x _ => ?_), own_keep h.out hk, own_keep h.nodes hk, own_keep h.nexts hk, h.a1, h.a2, h.a3, by rw [set_size]; exact h.size, h.below.setCell (Nat.le_refl _) _⟩
  show (if x = j then Value.bool true else .bool (d.seen x)) = .bool (upd d.seen j true x)
  by_cases e : x = j
  · rw [if_pos e, e, upd_same]
  · rw [if_neg e, upd_other _ _ _ _ e]

theorem Pst.row_kept (h : Pst N n d ns ps vo vn vx w wr) {o : Obj} {w1 : World} {va : Value} (hg : (wr.alloc o).grownBy w1 va.ownBlock) (hr : ∀ k, va.ownBlock = some k → N + 1 ≤ k) : w1.rowIs N 4 n (fun j => .bool (d.seen j)) ∧ N + 1 ≤ w1.heap.size ∧ Below N w w1 := by
  have hs := h.size
  have hs1 := hg.size
  have hsa : (wr.alloc o).heap.size = wr.heap.size + 1 := by simp
  refine ⟨(h.seen.alloc o).of_block (hg.block N (by omega) (fun e => by have := hr N e.symm; omega)), by omega, Below.grown (h.below.alloc (by omega) _) hg (by omega) (fun k hk => by have := hr k hk; omega)⟩

theorem Pst.pushNode (h : Pst N n d ns ps vo vn vx w wr) (v : Nat) (o : Obj) {v' : Value} {w1 : World} (hown : w1.ownsRow (N + 1) 3 1 v' (ns.length + 1) (ns.map natV ++ [natV v])) (hg : (wr.alloc o).grownBy w1 vn.ownBlock)
    (hat : v'.ownBlock = vn.ownBlock ∨ v'.ownBlock = some (wr.alloc o).heap.size) : Pst N n d (ns ++ [v]) ps vo v' vx w w1 := by
  obtain ⟨h1, h2, h3⟩ := h.row_kept hg (fun k hk => (h.nodes.lt k hk).1)
  exact ⟨h1, other_kept h.out hg h.a1, by simpa using hown, other_kept h.nexts hg h.a3.symm, (new_apart h.out h.a1.symm hat).symm, h.a2, new_apart h.nexts h.a3 hat, h2, h3⟩

theorem Pst.pushNext (h : Pst N n d ns ps vo vn vx w wr) (v : Nat) (o : Obj) {v' : Value} {w1 : World} (hown : w1.ownsRow (N + 1) 3 1 v' (ps.length + 1) (ps.map natV ++ [natV v])) (hg : (wr.alloc o).grownBy w1 vx.ownBlock)
    (hat : v'.ownBlock = vx.ownBlock ∨ v'.ownBlock = some (wr.alloc o).heap.size) : Pst N n d ns (ps ++ [v]) vo vn v' w w1 := by
  obtain ⟨h1, h2, h3⟩ := h.row_kept hg (fun k hk => (h.nexts.lt k hk).1)
  exact ⟨h1, other_kept h.out hg h.a2, other_kept h.nodes hg h.a3, by simpa using hown, h.a1, (new_apart h.out h.a2.symm hat).symm, (new_apart h.nodes h.a3.symm hat).symm, h2, h3⟩

theorem Pst.put (h : Pst N n d ns ps vo vn vx w wr) (v : Nat) (o : Obj) {v' : Value} {w1 : World} (hown : w1.ownsRow (N + 1) 3 1 v' (d.out.length + 1) (d.out.map natV ++ [natV v])) (hg : (wr.alloc o).grownBy w1 vo.ownBlock)
    (hat : v'.ownBlock = vo.ownBlock ∨ v'.ownBlock = some (wr.alloc o).heap.size) : Pst N n (putD v d) ns ps v' vn vx w w1 := by
  obtain ⟨h1, h2, h3⟩ := h.row_kept hg (fun k hk => (h.out.lt k hk).1)
  exact ⟨h1, by simpa [putD] using hown, other_kept h.nodes hg h.a1.symm, other_kept h.nexts hg h.a2.symm, new_apart h.nodes h.a1 hat, new_apart h.nexts h.a2 hat, h.a3, h2, h3⟩

theorem Pst.setNext {g cap q : Nat} {A : List Nat} {p : Nat} (hq : A.length = q) (h : Pst N n d ns (A ++ [p]) vo vn (.slice (some ⟨g, 0, none⟩) (q + 1) cap) w wr) (p' : Nat) :
    Pst N n d ns (A ++ [p']) vo vn (.slice (some ⟨g, 0, none⟩) (q + 1) cap) w (wr.setCell ⟨g, q, none⟩ (.int .i64 (p' : Int))) := by
  subst hq
  have hx : wr.ownsRow (N + 1) 3 1 (.slice (some ⟨g, 0, none⟩) (A.length + 1) cap) (A.length + 1) ((A ++ [p]).map natV) := by have := h.nexts; simpa using this
  obtain ⟨s1, s2⟩ := hx.stored A.length (natV p')
  have hg := (hx.lt g rfl)
  have hN : g ≠ N := by have := hg.1; omega
  refine ⟨h.seen.setOther (fun e => hN e.symm) _, h.out.kept s2 h.a2.out, h.nodes.kept s2 h.a3.out, ?_, h.a1, h.a2, h.a3, by rw [set_size]; exact h.size, h.below.setCell (by show N ≤ g; have := hg.1; omega) _⟩
  have e : ((A ++ [p]).map natV).set A.length (natV p') = (A ++ [p']).map natV := by
    rw [List.map_append, List.map_append, List.set_append_right _ _ (by simp)]
    simp
  rw [e] at s1
  show (wr.setCell ⟨g, A.length, none⟩ (natV p')).ownsRow _ _ _ _ _ _
  simpa using s1

theorem Pst.popBoth {g cap g' cap' q : Nat} {A B : List Nat} {v p : Nat} (hq : A.length = q) (hq' : B.length = q) (h : Pst N n d (A ++ [v]) (B ++ [p]) vo (.slice (some ⟨g, 0, none⟩) (q + 1) cap) (.slice (some ⟨g', 0, none⟩) (q + 1) cap') w wr) :
    Pst N n d A B vo (.slice (some ⟨g, 0, none⟩) q cap) (.slice (some ⟨g', 0, none⟩) q cap') w wr := by
  have h1 : wr.ownsRow (N + 1) 3 1 (.slice (some ⟨g, 0, none⟩) q cap) q (A.map natV) := ownsRow_pop (last := [natV v]) (by simp [hq]) (by have := h.nodes; simpa [hq] using this)
  have h2 : wr.ownsRow (N + 1) 3 1 (.slice (some ⟨g', 0, none⟩) q cap') q (B.map natV) := ownsRow_pop (last := [natV p]) (by simp [hq']) (by have := h.nexts; simpa [hq'] using this)
  exact ⟨h.seen, h.out, by rw [hq]; exact h1, by rw [hq']; exact h2, h.a1, h.a2, h.a3, h.size, h.below⟩
end

theorem pst_start {w w1 w2 w3 : World} {n N1 : Nat} (hN : N1 = w.heap.size + 1) (h1 : w1.ownsRow (w.heap.size + 1) 3 1 (.slice (some ⟨N1, 0, none⟩) 0 n) 0 []) (g1 : (w.alloc (.cells (madeCells #[.bool false] n) 4)).grownBy w1 none)
    (h2 : w2.ownsRow (w.heap.size + 1) 3 1 (.slice (some ⟨w1.heap.size, 0, none⟩) 0 n) 0 []) (g2 : w1.grownBy w2 none) (h3 : w3.ownsRow (w.heap.size + 1) 3 1 (.slice (some ⟨w2.heap.size, 0, none⟩) 0 n) 0 []) (g3 : w2.grownBy w3 none) :
    Pst w.heap.size n { seen := fun _ => false, out := [] } [] [] (.slice (some ⟨N1, 0, none⟩) 0 n) (.slice (some ⟨w1.heap.size, 0, none⟩) 0 n) (.slice (some ⟨w2.heap.size, 0, none⟩) 0 n) w w3 := by
  have s1 := g1.size
  have s2 := g2.size
  have s3 := g3.size
  have hsa : (w.alloc (.cells (madeCells #[.bool false] n) 4)).heap.size = w.heap.size + 1 := by simp
  have l1 := (h1.lt N1 rfl).2
  have l2 := (h2.lt w1.heap.size rfl).2
  have hr := World.rowIs_made w (.bool false) n 4
  refine ⟨((hr.of_block (g1.block w.heap.size (by omega) (by simp))).of_block (g2.block w.heap.size (by omega) (by simp))).of_block (g3.block w.heap.size (by omega) (by simp)), (h1.kept g2 (.inr (by simp [Value.ownBlock]))).kept g3 (.inr (by simp [Value.ownBlock])), h2.kept g3 (.inr (by simp [Value.ownBlock])), h3, ?_, ?_, ?_, by omega, ?_⟩
  · intro b hb hb'; simp only [Value.ownBlock, Option.some.injEq] at hb hb'; omega
  · intro b hb hb'; simp only [Value.ownBlock, Option.some.injEq] at hb hb'; omega
  · intro b hb hb'; simp only [Value.ownBlock, Option.some.injEq] at hb hb'; omega
  · exact (((Below.refl _ _).alloc (Nat.le_refl _) _).grown g1 (by omega) (fun k hk => by cases hk)).grown g2 (by omega) (fun k hk => by cases hk) |>.grown g3 (by omega) (fun k hk => by cases hk)

/-- The frames as the two stacks hold them. -/
def nodesL (fr : List (Nat × Nat)) : List Nat := (fr.map (fun x => x.1)).reverse
def nextsL (fr : List (Nat × Nat)) : List Nat := (fr.map (fun x => x.2)).reverse
theorem nodesL_cons (x : Nat × Nat) (fr : List (Nat × Nat)) : nodesL (x :: fr) = nodesL fr ++ [x.1] := by simp [nodesL]
theorem nextsL_cons (x : Nat × Nat) (fr : List (Nat × Nat)) : nextsL (x :: fr) = nextsL fr ++ [x.2] := by simp [nextsL]
theorem nodesL_len (fr : List (Nat × Nat)) : (nodesL fr).length = fr.length := by simp [nodesL]
theorem nextsL_len (fr : List (Nat × Nat)) : (nextsL fr).length = fr.length := by simp [nextsL]

theorem new_one' {w : World} {a : Addr} {v x : Value} {t : TypeId} : ∀ j u, [x][j]? = some u → ((w.setCell a v).alloc (.cells #[x] t)).cell? ((⟨w.heap.size, 0, none⟩ : Addr).add j) = some u := by
  have h := cell_one_new (w.setCell a v) x t
  rw [set_size] at h
  exact h

/-- What holds at the inner loop's head. -/
structure Run (g : Nat → List Nat) (n : Nat) (D : Df) (d : Df) (fr : List (Nat × Nat)) : Prop where
  fin : fin g n d fr = D
  ok : ∀ x ∈ fr, x.1 < n ∧ x.2 ≤ (g x.1).length
  len : d.out.length + fr.length + unseen (fun _ => 1) n d.seen ≤ n

theorem Run.seen {g : Nat → List Nat} {n : Nat} {D d : Df} {v p : Nat} {fs : List (Nat × Nat)} (h : Run g n D d ((v, p) :: fs)) (hp : p < (g v).length) (hs : d.seen (g v)[p] = true) : Run g n D d ((v, p + 1) :: fs) ∧ togo g n d ((v, p + 1) :: fs) < togo g n d ((v, p) :: fs) := by
  refine ⟨⟨by rw [← fin_seen g n d v p fs hp hs]; exact h.fin, fun x hx => ?_, by simpa using h.len⟩, ?_⟩
  · rcases List.mem_cons.1 hx with rfl | hx
    · exact ⟨(h.ok (v, p) (by simp)).1, hp⟩
    · exact h.ok x (List.mem_cons_of_mem _ hx)
  · simp only [togo, List.map_cons, List.sum_cons]; omega

theorem Run.new {g : Nat → List Nat} {n : Nat} (hg : ∀ i, ∀ j ∈ g i, j < n) {D d : Df} {v p : Nat} {fs : List (Nat × Nat)} (h : Run g n D d ((v, p) :: fs)) (hp : p < (g v).length) (hs : d.seen (g v)[p] = false) :
    Run g n D (markD (g v)[p] d) (((g v)[p], 0) :: (v, p + 1) :: fs) ∧ togo g n (markD (g v)[p] d) (((g v)[p], 0) :: (v, p + 1) :: fs) < togo g n d ((v, p) :: fs) := by
  have hj := hg v _ (List.getElem_mem hp)
  have hm := unseen_mark (fun _ => 1) d.seen _ hs n hj
  have hm2 := unseen_mark (fun j => (g j).length + 2) d.seen _ hs n hj
  refine ⟨⟨by rw [← fin_new n g hg d v p fs hp hs]; exact h.fin, fun x hx => ?_, ?_⟩, ?_⟩
  · rcases List.mem_cons.1 hx with rfl | hx
    · exact ⟨hj, Nat.zero_le _⟩
    · rcases List.mem_cons.1 hx with rfl | hx
      · exact ⟨(h.ok (v, p) (by simp)).1, hp⟩
      · exact h.ok x (List.mem_cons_of_mem _ hx)
  · have := h.len
    simp only [List.length_cons] at this ⊢
    show d.out.length + _ + unseen (fun _ => 1) n (upd d.seen _ true) ≤ n
    omega
  · simp only [togo, List.map_cons, List.sum_cons]
    show unseen _ n (upd d.seen _ true) + _ < _
    omega

theorem Run.done {g : Nat → List Nat} {n : Nat} {D d : Df} {v p : Nat} {fs : List (Nat × Nat)} (h : Run g n D d ((v, p) :: fs)) (hp : ¬ p < (g v).length) : Run g n D (putD v d) fs ∧ togo g n (putD v d) fs < togo g n d ((v, p) :: fs) := by
  refine ⟨⟨by rw [← fin_done g n d v p fs hp]; exact h.fin, fun x hx => h.ok x (List.mem_cons_of_mem _ hx), ?_⟩, ?_⟩
  · have := h.len
    simp only [List.length_cons, putD, List.length_append, List.length_nil] at this ⊢
    omega
  · simp only [togo, List.map_cons, List.sum_cons, putD]; omega

theorem run_start {g : Nat → List Nat} {n k : Nat} {d : Df} (hk : k < n) (hs : d.seen k = false) (hl : d.out.length + unseen (fun _ => 1) n d.seen ≤ n) : Run g n (dfs g (n + 1) d k) (markD k d) [(k, 0)] := by
  have hm := unseen_mark (fun _ => 1) d.seen k hs n hk
  refine ⟨fin_root g n d k, fun x hx => ?_, ?_⟩
  · rw [List.mem_singleton.1 hx]; exact ⟨hk, Nat.zero_le _⟩
  · show d.out.length + 1 + unseen (fun _ => 1) n (upd d.seen k true) ≤ n
    omega

set_option maxHeartbeats 1000000 in
set_option maxRecDepth 100000 in
theorem postorder_any (v : Value) (xss : List (List Int)) (n : Nat) (w : World) (hn : n ≤ 65536) (hx : xss.length = n) (hr : rowsInRange (n : Int) xss = true) (hll : ∀ k, (xss.getD k []).length ≤ maxLen) (hd : IntRows w w.heap.size v xss) :
    Calls Try.prog 9 #[v] w fun e w' => OrderEnd (rootsD (graphOf xss) n n).out w w' e := by
  have HG : Hid (∀ i, ∀ j ∈ graphOf xss i, j < n) := graph_lt hr
  have HR : Hid (rowsInRange (n : Int) xss = true) := hr
  have HX : Hid (xss.length = n) := hx
  have HLL : Hid (∀ k, (xss.getD k []).length ≤ maxLen) := hll
  obtain ⟨ao, cap, hv, hc⟩ := hd
  subst hv
  rw [hx] at hc ⊢
  have HC : Hid (∀ k, k < n → ∃ b off u, ao = some ⟨b, off, none⟩ ∧ b < w.heap.size ∧ w.cell? ⟨b, off + k, none⟩ = some u ∧ IntRow w w.heap.size u (xss.getD k [])) := hc
  have hmk := run_make_row' (P := Try.prog) 37 4 (.bool false) 1 Try.underlying37 Try.info4 rfl .i64 .i64 n (by omega) (by omega)
  obtain ⟨i0, hi0, hz0, hz1, hz2⟩ := info_parts Try.info3
  clear hr hx hll hc
  go_enter Try.func9, Try.ntmps9
  go_upto_region 6 with (first
    | (at_make; refine wpList_make_own _ rfl (.const (.int .i64 0)) (.tmp 17) 29 rfl (w.heap.size + 1) 3 i0 (.int .i64 0) 1 Try.underlying29 hi0 hz0 hz1 .i64 .i64 n n rfl rfl rfl (by rw [hz2]; omega) (by unfold maxLen; omega) (by simp) ?_; intro w1 hown1 hgrow1)
    | (at_make; refine wpList_make_own _ rfl (.const (.int .i64 0)) (.tmp 19) 29 rfl (w.heap.size + 1) 3 i0 (.int .i64 0) 1 Try.underlying29 hi0 hz0 hz1 .i64 .i64 n n rfl rfl rfl (by rw [hz2]; omega) (by unfold maxLen; omega) (by have := hgrow1.size; simp at this; omega) ?_; intro w2 hown2 hgrow2)
    | (at_make; refine wpList_make_own _ rfl (.const (.int .i64 0)) (.tmp 21) 29 rfl (w.heap.size + 1) 3 i0 (.int .i64 0) 1 Try.underlying29 hi0 hz0 hz1 .i64 .i64 n n rfl rfl rfl (by rw [hz2]; omega) (by unfold maxLen; omega) (by have := hgrow1.size; have := hgrow2.size; simp at *; omega) ?_; intro w3 hown3 hgrow3))
  have hal : (w.alloc (.cells (madeCells #[.bool false] n) 4)).heap.size = w.heap.size + 1 := by simp
  rw [hal] at hown1
  have HP : Hid (Pst w.heap.size n { seen := fun _ => false, out := [] } [] [] (.slice (some ⟨w.heap.size + 1, 0, none⟩) 0 n) (.slice (some ⟨w1.heap.size, 0, none⟩) 0 n) (.slice (some ⟨w2.heap.size, 0, none⟩) 0 n) w w3) := pst_start rfl hown1 hgrow1 hown2 hgrow2 hown3 hgrow3
  clear hown1 hown2 hown3 hgrow1 hgrow2 hgrow3 hal hmk
  go_wp2
  go_loopw [8, 5, 6, 7] (fun c vo vn vx wr => ∃ k : Nat, k ≤ n ∧ c = .int .i64 k ∧ (rootsD (graphOf xss) n k).out.length + unseen (fun _ => 1) n (rootsD (graphOf xss) n k).seen ≤ n ∧ Pst w.heap.size n (rootsD (graphOf xss) n k) [] [] vo vn vx w wr) (fun c _ _ _ _ => n - (intOf c).toNat)
  case atStart => exact ⟨0, Nat.zero_le _, rfl, by have := unseen_le (fun _ => false) n; simpa [rootsD] using this, HP.out⟩
  case round =>
    obtain ⟨k, hk, rfl, hl, hp⟩ := hrel
    clear HP
    have hsucc := rootsD_succ (graphOf xss) n k
    obtain ⟨d, hd⟩ : ∃ d, d = rootsD (graphOf xss) n k := ⟨_, rfl⟩
    rw [← hd] at hl hp hsucc
    have HD : Hid (d = rootsD (graphOf xss) n k) := hd
    have HSUCC : Hid (rootsD (graphOf xss) n (k + 1) = rootD (graphOf xss) n d k) := hsucc
    have HP : Hid (Pst w.heap.size n d [] [] u5 u6 u7 w wr) := hp
    have HLE : Hid (d.out.length + unseen (fun _ => 1) n d.seen ≤ n) := hl
    by_cases hlt : k < n
    · have cs := hp.seen.cell hlt
      have fs := hp.seen.frozen k
      have hsz := hp.size
      clear hp hl hd hsucc
      cases hsn : d.seen k with
      | true =>
        rw [hsn] at cs
        have HSN : Hid (d.seen k = true) := hsn
        clear hsn
        go_wp2
        go_roundw
        case rel =>
          refine ⟨k + 1, by omega, by go_num, ?_, ?_⟩
          · rw [HSUCC.out, rootD, if_pos HSN.out]; exact HLE.out
          · rw [HSUCC.out, rootD, if_pos HSN.out]; exact HP.out
        case measure => simp [intOf]; omega
      | false =>
        rw [hsn] at cs
        have HSN : Hid (d.seen k = false) := hsn
        have HRUN : Hid (Run (graphOf xss) n (dfs (graphOf xss) (n + 1) d k) (markD k d) [(k, 0)]) := run_start hlt hsn HLE.out
        have HP1 : Hid (Pst w.heap.size n (markD k d) [] [] u5 u6 u7 w (wr.setCell ⟨w.heap.size, k, none⟩ (.bool true))) := HP.out.mark k
        clear hsn
        go_upto_region 12 with (at_builtin; refine wpList_append_own_at _ rfl (.tmp 35) (.tmp 37) 29 rfl (w.heap.size + 1) 3 i0 (.int .i64 0) 1 8 Try.underlying29 hi0 hz0 hz1 hz2 rfl (by decide) u6 0 [] rfl (HP1.out.nodes.alloc _) ⟨wr.heap.size, 0, none⟩ 1 1 [natV k] rfl rfl new_one' (by simp [natV, Value.oneCell']) (by unfold maxLen; omega) (by omega) (by simp; omega) ?_; intro v6 w4 hown4 hgrow4 _ hat4; obtain ⟨g4, cap4, rfl⟩ := own_slice hown4)
        have hp2 := HP1.out.pushNode k _ hown4 hgrow4 hat4
        have HP2 : Hid (Pst w.heap.size n (markD k d) [k] [] u5 _ u7 w w4) := hp2
        have hsz4 := hp2.size
        clear hp2 hown4 hgrow4 hat4
        go_wp2_with (at_builtin; refine wpList_append_own_at _ rfl (.tmp 39) (.tmp 40) 29 rfl (w.heap.size + 1) 3 i0 (.int .i64 0) 1 8 Try.underlying29 hi0 hz0 hz1 hz2 rfl (by decide) u7 0 [] rfl (HP2.out.nexts.alloc _) ⟨w4.heap.size, 0, none⟩ 1 1 [natV 0] rfl rfl (cell_one_new _ _ _) (by simp [natV, Value.oneCell']) (by unfold maxLen; omega) (by omega) (by simp; omega) ?_; intro v7 w5 hown5 hgrow5 _ hat5; obtain ⟨g5, cap5, rfl⟩ := own_slice hown5)
        have HP3 : Hid (Pst w.heap.size n (markD k d) (nodesL [(k, 0)]) (nextsL [(k, 0)]) u5 _ _ w w5) := HP2.out.pushNext 0 _ hown5 hgrow5 hat5
        clear hown5 hgrow5 hat5 HP2 HP1 hsz4 cs fs hsz HP
        go_loopg [5, 6, 7] (togo (graphOf xss) n (markD k d) [(k, 0)]) (fun gk vo vn vx wr => ∃ (d2 : Df) (fr : List (Nat × Nat)), gk = togo (graphOf xss) n d2 fr ∧ Run (graphOf xss) n (dfs (graphOf xss) (n + 1) d k) d2 fr ∧ Pst w.heap.size n d2 (nodesL fr) (nextsL fr) vo vn vx w wr)
        case atStart => exact ⟨markD k d, [(k, 0)], rfl, HRUN.out, HP3.out⟩
        case round =>
          obtain ⟨d2, fr, hgk, hrun, hp⟩ := hrel
          clear HP3 HRUN
          have HGK : Hid (gk = togo (graphOf xss) n d2 fr) := hgk
          have HRUN : Hid (Run (graphOf xss) n (dfs (graphOf xss) (n + 1) d k) d2 fr) := hrun
          have hlen := hrun.len
          have hsz := hp.size
          match fr, hgk, hrun, hp, HGK, HRUN, hlen with
          | [], _, hrun, hp, HGK, HRUN, hlen =>
            obtain ⟨no, ncap, hvn⟩ := own_shape hp.nodes
            subst hvn
            have hfin := HRUN.out.fin
            have HFIN : Hid (d2 = dfs (graphOf xss) (n + 1) d k) := hfin
            have HP4 : Hid (Pst w.heap.size n d2 [] [] u5 (.slice no 0 ncap) u7 w wr) := hp
            have HL4 : Hid (d2.out.length + unseen (fun _ => 1) n d2.seen ≤ n) := by have := hlen; simp only [List.length_nil] at this; show _ ≤ n; omega
            rw [nodesL_len]
            clear hrun hp hfin hlen hsz HGK HRUN
            go_wp2
            go_roundw
            case rel =>
              have hsn : ¬ d.seen k = true := by rw [HSN.out]; decide
              refine ⟨k + 1, by omega, by go_num, ?_, ?_⟩
              · rw [HSUCC.out, rootD, if_neg hsn, ← HFIN.out]; exact HL4.out
              · rw [HSUCC.out, rootD, if_neg hsn, ← HFIN.out]; exact HP4.out
            case measure => simp [intOf]; omega
          | (v, p) :: fs, _, hrun, hp, HGK, HRUN, hlen =>
            simp only [List.length_cons] at hlen
            obtain ⟨hvn, hpl⟩ := hrun.ok (v, p) (by simp)
            obtain ⟨q, hq⟩ : ∃ q, fs.length = q := ⟨_, rfl⟩
            have hnl : (nodesL fs).length = q := by rw [nodesL_len]; exact hq
            have hxl : (nextsL fs).length = q := by rw [nextsL_len]; exact hq
            rw [nodesL_cons, nextsL_cons] at hp
            obtain ⟨g6, cap6, hv6⟩ := own_slice' (k := q) (by rw [List.length_append, hnl]; rfl) hp.nodes
            obtain ⟨g7, cap7, hv7⟩ := own_slice' (k := q) (by rw [List.length_append, hxl]; rfl) hp.nexts
            subst hv6
            subst hv7
            have c6 := own_top hnl hp.nodes
            have c7 := own_top hxl hp.nexts
            have hc6 := own_cap hp.nodes
            have hc7 := own_cap hp.nexts
            have hx7 : wr.ownsRow (w.heap.size + 1) 3 1 (.slice (some ⟨g7, 0, none⟩) (q + 1) cap7) (q + 1) ((nextsL fs ++ [p]).map natV) := by have := hp.nexts; rwa [List.length_append, hxl] at this
            have f7 := hx7.frozenAt q
            have HP4 : Hid (Pst w.heap.size n d2 (nodesL fs ++ [v]) (nextsL fs ++ [p]) u5 (.slice (some ⟨g6, 0, none⟩) (q + 1) cap6) (.slice (some ⟨g7, 0, none⟩) (q + 1) cap7) w wr) := hp
            obtain ⟨b, off, u, hao, hbB, hcu, uo, ucap, hus, hur⟩ := HC.out v hvn
            subst hao
            subst hus
            have hcu' := (hp.below.cell (p := ⟨b, off + v, none⟩) hbB).trans hcu
            have HUR : Hid (∀ k, k < (xss.getD v []).length → ∃ b off, uo = some ⟨b, off, none⟩ ∧ b < w.heap.size ∧ w.cell? ⟨b, off + k, none⟩ = some (.int .i64 ((xss.getD v []).getD k 0))) := hur
            have hml := HLL.out v
            unfold maxLen at hml
            obtain ⟨L, hL⟩ : ∃ L, L = (xss.getD v []).length := ⟨_, rfl⟩
            have hgl : (graphOf xss v).length = L := by rw [hL]; simp [graphOf]
            have hcuw := hcu
            rw [← hL] at hcu' hml hcuw
            rw [hgl] at hpl
            have HL : Hid (L = (xss.getD v []).length) := hL
            have HGL : Hid ((graphOf xss v).length = L) := hgl
            have HNL : Hid ((nodesL fs).length = q) := hnl
            have HXL : Hid ((nextsL fs).length = q) := hxl
            have HCU : Hid (w.cell? ⟨b, off + v, none⟩ = some (.slice uo L ucap)) := hcuw
            have hq' : q + 1 ≤ n := by omega
            clear hrun hp hq hnl hxl hx7 hcu hur hL hgl hcuw
            by_cases hpL : p < L
            · go_upto_region 18 with fail
              go_cut [] from 42 to 99 (fun wd => Pst w.heap.size n d2 (nodesL fs ++ [v]) (nextsL fs ++ [p + 1]) u5 (.slice (some ⟨g6, 0, none⟩) (q + 1) cap6) (.slice (some ⟨g7, 0, none⟩) (q + 1) cap7) w wd)
              case first =>
                go_wp2_with fail
                go_meet
                case rel => exact HP4.out.setNext HXL.out (p + 1)
              case rest =>
                clear HP4 c6 c7 f7 hcu' hsz
                obtain ⟨b', off', huo, hbB', hcell⟩ := HUR.out p (by rw [← HL.out]; exact hpL)
                subst huo
                obtain ⟨j, hjn, hjx, hkg, hgj⟩ := graph_row HR.out (i := v) (k := p) (by rw [← HL.out]; exact hpL)
                have hcj := (hcut.below.cell (p := ⟨b', off' + p, none⟩) hbB').trans hcell
                rw [hjx] at hcj
                have hcv := (hcut.below.cell (p := ⟨b, off + v, none⟩) hbB).trans HCU.out
                have cs := hcut.seen.cell hjn
                have fsn := hcut.seen.frozen j
                have hsz := hcut.size
                have HP5 : Hid (Pst w.heap.size n d2 (nodesL fs ++ [v]) (nextsL fs ++ [p + 1]) u5 (.slice (some ⟨g6, 0, none⟩) (q + 1) cap6) (.slice (some ⟨g7, 0, none⟩) (q + 1) cap7) w wc) := hcut
                have hjn' : (j : Int) < (n : Int) := by omega
                have HKG : Hid (p < (graphOf xss v).length) := hkg
                cases hsj : d2.seen j with
                | true =>
                  have hr2 := HRUN.out.seen hkg (by rw [hgj]; exact hsj)
                  have HR2 : Hid (Run (graphOf xss) n (dfs (graphOf xss) (n + 1) d k) d2 ((v, p + 1) :: fs) ∧ togo (graphOf xss) n d2 ((v, p + 1) :: fs) < togo (graphOf xss) n d2 ((v, p) :: fs)) := hr2
                  rw [hsj] at cs
                  clear hcut hcell hjx hgj hsj hr2 hkg
                  go_wp2
                  go_roundg (togo (graphOf xss) n d2 ((v, p + 1) :: fs))
                  case measure => have h1 := HR2.out.2; have h2 := HGK.out; omega
                  case rel => exact ⟨d2, (v, p + 1) :: fs, rfl, HR2.out.1, by rw [nodesL_cons, nextsL_cons]; exact HP5.out⟩
                | false =>
                  have hr2 := HRUN.out.new HG.out hkg (by rw [hgj]; exact hsj)
                  rw [hgj] at hr2
                  have HR2 : Hid (Run (graphOf xss) n (dfs (graphOf xss) (n + 1) d k) (markD j d2) ((j, 0) :: (v, p + 1) :: fs) ∧ togo (graphOf xss) n (markD j d2) ((j, 0) :: (v, p + 1) :: fs) < togo (graphOf xss) n d2 ((v, p) :: fs)) := hr2
                  have HP6 : Hid (Pst w.heap.size n (markD j d2) (nodesL fs ++ [v]) (nextsL fs ++ [p + 1]) u5 (.slice (some ⟨g6, 0, none⟩) (q + 1) cap6) (.slice (some ⟨g7, 0, none⟩) (q + 1) cap7) w (wc.setCell ⟨w.heap.size, j, none⟩ (.bool true))) := HP5.out.mark j
                  have hn6 : (wc.setCell ⟨w.heap.size, j, none⟩ (.bool true)).ownsRow (w.heap.size + 1) 3 1 (.slice (some ⟨g6, 0, none⟩) (q + 1) cap6) (q + 1) ((nodesL fs ++ [v]).map natV) := by have := HP6.out.nodes; rwa [List.length_append, HNL.out] at this
                  have HN6 : Hid ((wc.setCell ⟨w.heap.size, j, none⟩ (.bool true)).ownsRow (w.heap.size + 1) 3 1 (.slice (some ⟨g6, 0, none⟩) (q + 1) cap6) (q + 1) ((nodesL fs ++ [v]).map natV)) := hn6
                  rw [hsj] at cs
                  clear hcut hcell hjx hgj hsj hr2 hkg hn6
                  go_upto_region 23 with (at_builtin; refine wpList_append_own_at _ rfl (.tmp 83) (.tmp 85) 29 rfl (w.heap.size + 1) 3 i0 (.int .i64 0) 1 8 Try.underlying29 hi0 hz0 hz1 hz2 rfl (by decide) (.slice (some ⟨g6, 0, none⟩) (q + 1) cap6) (q + 1) ((nodesL fs ++ [v]).map natV) rfl (HN6.out.alloc _) ⟨wc.heap.size, 0, none⟩ 1 1 [natV j] rfl rfl new_one' (by simp [natV, Value.oneCell']) (by unfold maxLen; omega) (by omega) (by simp; omega) ?_; intro v6 w6 hown6 hgrow6 _ hat6; obtain ⟨g8, cap8, rfl⟩ := own_slice hown6)
                  have hp7 := HP6.out.pushNode j _ (by rw [List.length_append, HNL.out]; exact hown6) hgrow6 hat6
                  have HP7 : Hid (Pst w.heap.size n (markD j d2) (nodesL fs ++ [v] ++ [j]) (nextsL fs ++ [p + 1]) u5 _ (.slice (some ⟨g7, 0, none⟩) (q + 1) cap7) w w6) := hp7
                  have hn7 : w6.ownsRow (w.heap.size + 1) 3 1 (.slice (some ⟨g7, 0, none⟩) (q + 1) cap7) (q + 1) ((nextsL fs ++ [p + 1]).map natV) := by have := hp7.nexts; rwa [List.length_append, HXL.out] at this
                  have HN7 : Hid (w6.ownsRow (w.heap.size + 1) 3 1 (.slice (some ⟨g7, 0, none⟩) (q + 1) cap7) (q + 1) ((nextsL fs ++ [p + 1]).map natV)) := hn7
                  have hsz6 := hp7.size
                  clear hp7 hn7 hown6 hgrow6 hat6 cs fsn hcv hcj
                  go_wp2_with (at_builtin; refine wpList_append_own_at _ rfl (.tmp 87) (.tmp 88) 29 rfl (w.heap.size + 1) 3 i0 (.int .i64 0) 1 8 Try.underlying29 hi0 hz0 hz1 hz2 rfl (by decide) (.slice (some ⟨g7, 0, none⟩) (q + 1) cap7) (q + 1) ((nextsL fs ++ [p + 1]).map natV) rfl (HN7.out.alloc _) ⟨w6.heap.size, 0, none⟩ 1 1 [natV 0] rfl rfl (cell_one_new _ _ _) (by simp [natV, Value.oneCell']) (by unfold maxLen; omega) (by omega) (by simp; omega) ?_; intro v7 w7 hown7 hgrow7 _ hat7; obtain ⟨g9, cap9, rfl⟩ := own_slice hown7)
                  have hp8 := HP7.out.pushNext 0 _ (by rw [List.length_append, HXL.out]; exact hown7) hgrow7 hat7
                  go_roundg (togo (graphOf xss) n (markD j d2) ((j, 0) :: (v, p + 1) :: fs))
                  case measure => have h1 := HR2.out.2; have h2 := HGK.out; omega
                  case rel => exact ⟨markD j d2, (j, 0) :: (v, p + 1) :: fs, rfl, HR2.out.1, by rw [nodesL_cons, nextsL_cons, nodesL_cons, nextsL_cons]; exact hp8⟩
            · have hr2 := HRUN.out.done (by rw [HGL.out]; exact hpL)
              have HR2 : Hid (Run (graphOf xss) n (dfs (graphOf xss) (n + 1) d k) (putD v d2) fs ∧ togo (graphOf xss) n (putD v d2) fs < togo (graphOf xss) n d2 ((v, p) :: fs)) := hr2
              have hol : d2.out.length ≤ n := by omega
              clear hr2
              go_upto_region 25 with (at_builtin; refine wpList_append_own_at _ rfl (.tmp 90) (.tmp 92) 29 rfl (w.heap.size + 1) 3 i0 (.int .i64 0) 1 8 Try.underlying29 hi0 hz0 hz1 hz2 rfl (by decide) u5 d2.out.length (d2.out.map natV) rfl (HP4.out.out.alloc _) ⟨wr.heap.size, 0, none⟩ 1 1 [natV v] rfl rfl (cell_one_new _ _ _) (by simp [natV, Value.oneCell']) (by unfold maxLen; omega) (by omega) (by simp; omega) ?_; intro v5 w6 hown6 hgrow6 _ hat6; obtain ⟨g8, cap8, rfl⟩ := own_slice hown6)
              have hp5 := HP4.out.put v _ hown6 hgrow6 hat6
              have HP5 : Hid (Pst w.heap.size n (putD v d2) (nodesL fs) (nextsL fs) _ (.slice (some ⟨g6, 0, none⟩) q cap6) (.slice (some ⟨g7, 0, none⟩) q cap7) w w6) := hp5.popBoth HNL.out HXL.out
              clear hp5 hown6 hgrow6 hat6 c6 c7 f7 hcu' hsz
              go_wp2
              go_roundg (togo (graphOf xss) n (putD v d2) fs)
              case measure => have h1 := HR2.out.2; have h2 := HGK.out; omega
              case rel => exact ⟨putD v d2, fs, rfl, HR2.out.1, HP5.out⟩
    · have hkn : k = n := by omega
      subst hkn
      obtain ⟨vao, vcap, hvo⟩ := own_shape hp.out
      subst hvo
      have HO : Hid (wr.ownsRow (w.heap.size + 1) 3 1 (.slice vao d.out.length vcap) d.out.length (d.out.map natV)) := hp.out
      have HBF : Hid (Below w.heap.size w wr) := hp.below
      clear hp hl hd hsucc
      go_wp2
      go_ret
      have hd := HD.out
      subst hd
      have hro := own_room HO.out
      exact ⟨vao, vcap, rfl, hro.1, hro.2, intRow_of_own HO.out, HBF.out⟩

end Go.Proofs.Qxb6627646a
