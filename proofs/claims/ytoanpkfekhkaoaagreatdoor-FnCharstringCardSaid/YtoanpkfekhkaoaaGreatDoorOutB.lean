/-
  segmentsOf: its inner rounds. Conditions: as each theorem names them.
-/
import Derived.Test.YtoanpkfekhkaoaaGreatDoorOutA
import Derived.Test.YtoanpkfekhkaoaaGreatDoorOutO
import Derived.Test.YtoanpkfekhkaoaaGreatDoorIntB
import Derived.Test.YtoanpkfekhkaoaaGreatDoorSpecE
import Derived.LoopN
namespace Go.Proofs.YtoanpkfekhkaoaaGreatDoor
open Go Go.RowKit
theorem info55 : (Tryz.prog.info? 55).map (fun i => (i.zero, i.size, i.bytes)) = some (some (.agg #[.int .i64 0, .int .i64 0]), 2, 16) := by kernel_rfl
theorem und52 : Tryz.prog.underlying 52 = some (.slice 55) := by kernel_rfl
theorem info54 : (Tryz.prog.info? 54).map (fun i => (i.zero, i.size, i.bytes)) = some (some (.agg #[.int .i64 0, .slice none 0 0]), 2, 32) := by kernel_rfl
theorem und27 : Tryz.prog.underlying 27 = some (.slice 54) := by kernel_rfl
noncomputable def body15 : Code := ((Tryz.f15.body.bind firstLoop).getD .skip)
set_option maxRecDepth 100000 in
def fr15 (sv vo : Value) (k i : Nat) (u : Nat → Value) : Array Value := #[u 0, u 1, u 2, vo, u 4, u 5, u 6, u 7, sv, .int .i64 k, .int .i64 i, u 11, u 12, u 13, u 14, u 15, u 16, u 17, u 18, u 19, u 20, u 21, u 22, u 23, u 24, u 25, u 26, u 27, u 28, u 29, u 30, u 31, u 32, u 33, u 34, u 35, u 36, u 37, u 38, u 39, u 40, u 41, u 42]
structure Fx15 (sv vo : Value) (k i : Nat) (t : Array Value) : Prop where
  size : t.size = 43
  s3 : t[3]? = some vo
  s8 : t[8]? = some sv
  s9 : t[9]? = some (.int .i64 k)
  s10 : t[10]? = some (.int .i64 i)
/-- The points of a segment, in a block that may have room. -/
def PtBlk (g : Nat) (pts : List (Int × Int)) (w : World) : Prop := ∃ (cur : Array Value) (m : Nat × Nat), w.heap[g]? = some (.cells cur 55 m) ∧ ∀ (j : Nat) (v : Value), (ptCells pts)[j]? = some v → cur[j]? = some v
section
variable {B sb c k i : Nat} {w : World} {u : Nat → Value} {Q : Exit → Act → World → Prop}
theorem PtBlk.of_own {b g m c : Nat} {pts : List (Int × Int)} (h : w.ownsRow b 55 2 (.slice (some ⟨g, 0, none⟩) m c) m (ptCells pts)) (hm : 0 < m) (hp : pts.length = m) : b ≤ g ∧ PtBlk g pts w := by
  rcases h.2 with ⟨_, hh⟩ | ⟨g', cap, cur, he, hb, hg, _, _, _, ht⟩
  · omega
  · cases he
    refine ⟨hb, cur, (0, 0), hg, fun j v hv => ?_⟩
    have hj := (List.getElem?_eq_some_iff.1 hv).1
    have hl := ptCells_length pts
    rw [← ht, List.getElem?_take, if_pos (by omega)] at hv
    simpa using hv
theorem step_app_pt {base a m m' : Nat} {vp : Value} {xs : List Value} {px py : Int} (hown : w.ownsRow base 55 2 vp m xs) (hb : base ≤ w.heap.size) (hm : m ≤ 10) (hm' : m + 1 = m') (hab : w.heap[a]? = some (.cells #[.int .i64 px, .int .i64 py] 55 (0, 0)))
    {ops : Array Oper} {o : Oper} {act : Act} {K : Act → World → Prop} {E : Prop} (hg : o.guard = none) (x y : Operand)
    (hop : o.op = Op.call { callee := Callee.builtin Builtin.append, args := #[x, y], argTypes := #[52, 52] })
    (hx : act.eval x = vp) (hy : act.eval y = .slice (some ⟨a, 0, none⟩) 1 1)
    (hK : ∀ g' c' w1, w1.ownsRow base 55 2 (.slice (some ⟨g', 0, none⟩) m' c') m' (xs ++ [.int .i64 px, .int .i64 py]) → w.grownBy w1 vp.ownBlock → K (act.put o.dst (.slice (some ⟨g', 0, none⟩) m' c')) w1) :
    if Region.wanted o (yielded ops act.tmps) = true then Oper.wp Tryz.prog o act w K Q else E := by
  subst hm'
  rw [if_pos (by simp [Region.wanted, hg])]
  obtain ⟨i0, hi, hz0, hz1, hz2⟩ := info_parts info55
  refine wp_append_own w x y 52 hop base 55 i0 _ 2 16 und52 hi hz0 hz1 hz2 rfl (by decide) vp m xs hx hown ⟨a, 0, none⟩ 1 1 [.int .i64 px, .int .i64 py] hy rfl ?_ ?_ (by unfold maxLen; omega) (by omega) hb ?_
  · intro j u hj
    rw [Addr.add_lit, Nat.zero_add, blk_cell hab]
    simpa using hj
  · intro u hu
    simp only [List.mem_cons, List.mem_nil_iff, or_false] at hu
    rcases hu with rfl | rfl <;> rfl
  · intro v' w1 hown1 hgrow _
    rcases hown1.2 with ⟨_, hh⟩ | ⟨g', cap, cur, rfl, _⟩
    · omega
    · exact hK _ _ w1 hown1 hgrow
attribute [local go_sem ↓] Go.wp_at_zero Go.wp_at_succ
set_option maxRecDepth 100000 in
set_option maxHeartbeats 4000000 in
theorem seg_r0 {vo : Value} {ys : List Value} {x0 y0 : Int} (hQp : ∀ c (a : Act) d v w, Q (.panic c) (a.put d v) w → Q (.panic c) a w) (hi : i < k) (hkc : k ≤ 100000) (hlt : sb < w.heap.size) (hx0 : -2000000 ≤ x0 ∧ x0 ≤ 2000000) (hy0 : -2000000 ≤ y0 ∧ y0 ≤ 2000000)
    (h0 : w.cell? ⟨sb, i * 7, none⟩ = some (.int .u32 0)) (h1 : w.cell? ⟨sb, i * 7 + 1, none⟩ = some (.int .i32 x0)) (h2 : w.cell? ⟨sb, i * 7 + 2, none⟩ = some (.int .i32 y0)) (h3 : w.cell? ⟨sb, i * 7 + 3, none⟩ = some (.int .i32 0)) (h4 : w.cell? ⟨sb, i * 7 + 4, none⟩ = some (.int .i32 0)) (h5 : w.cell? ⟨sb, i * 7 + 5, none⟩ = some (.int .i32 0)) (h6 : w.cell? ⟨sb, i * 7 + 6, none⟩ = some (.int .i32 0)) (hB : B ≤ w.heap.size) (hvo : w.ownsRow B 54 2 vo i ys)
    (hQ : ∀ t w' vo' g c', Fx15 (.slice (some ⟨sb, 0, none⟩) k c) vo' k (i + 1) t → w'.ownsRow B 54 2 vo' (i + 1) (ys ++ [.int .i64 0, .slice (some ⟨g, 0, none⟩) 1 c']) → w.heap.size ≤ g → PtBlk g [(x0, y0)] w' → w.heap.size ≤ w'.heap.size → w'.os = w.os → w'.tape = w.tape → w'.output = w.output →
      (∀ k, k < w.heap.size → some k ≠ vo.ownBlock → w'.heap[k]? = w.heap[k]?) → Q .normal ⟨t, []⟩ w') :
    Code.wp Tryz.prog body15 Q ⟨fr15 (.slice (some ⟨sb, 0, none⟩) k c) vo k i u, []⟩ w := by
  have HQ := Lib.hid hQ
  have HV := Lib.hid hvo
  clear hQ hvo
  conv => arg 2; whnf
  unfold fr15
  go_wp2_with fail
  refine wp_loop_rounds 2 ?_
  rw [rounds_succ]
  go_wp2_with fail
  generalize hW : (w.alloc (.cells #[.int .u32 0, .int .i32 x0, .int .i32 y0, .int .i32 0, .int .i32 0, .int .i32 0, .int .i32 0] 112)).alloc (.cells #[.int .i64 0, .slice none 0 0] 54) = W0
  have hd0 : W0.heap[w.heap.size]? = some (.cells #[.int .u32 0, .int .i32 x0, .int .i32 y0, .int .i32 0, .int .i32 0, .int .i32 0, .int .i32 0] 112 (0, 0)) := by rw [← hW, blk_alloc _ (by simp)]; exact blk_new w _
  have he0 : W0.heap[w.heap.size + 1]? = some (.cells #[.int .i64 0, .slice none 0 0] 54 (0, 0)) := by rw [← hW]; exact blk_at _ _ (by simp)
  have hbl0 : Below w.heap.size w W0 := by rw [← hW]; exact ((Below.refl _ w).alloc (Nat.le_refl _) _).alloc (by simp) _
  have hown0 : W0.ownsRow w.heap.size 55 2 (.slice none 0 0) 0 [] := World.ownsRow_nil _ _ _ _
  clear hW h0 h1 h2 h3 h4 h5 h6
  have hlt0 : w.heap.size + 1 < W0.heap.size := blk_lt he0
  have q0 : W0.cell? ⟨w.heap.size + 1, 1, none⟩ = some (.slice none 0 0) := by rw [blk_cell he0]; rfl
  have q1 : W0.cell? ⟨w.heap.size, 1, none⟩ = some (.int .i32 x0) := by rw [blk_cell hd0]; rfl
  have q2 : W0.cell? ⟨w.heap.size, 2, none⟩ = some (.int .i32 y0) := by rw [blk_cell hd0]; rfl
  have fe := blk_free he0 1
  refine wp_region_11 (S := fun w' => w'.cell? ⟨w.heap.size + 1, 1, none⟩ = some (.slice none 0 0) ∧ w'.cell? ⟨w.heap.size, 1, none⟩ = some (.int .i32 x0) ∧ w'.cell? ⟨w.heap.size, 2, none⟩ = some (.int .i32 y0))
    (by kernel_rfl) (by kernel_rfl) (by kernel_rfl) (by kernel_rfl) (by kernel_rfl) (by kernel_rfl) (by kernel_rfl) (by kernel_rfl) (by kernel_rfl) (fun _ _ _ _ _ h => hQp _ _ _ _ _ h) ⟨q0, q1, q2⟩ ?_
  iterate 6 (refine' wpQ_one (by rfl) ?_ ?_; rotate_left; (focus (intro w' hw; obtain ⟨c0, c1, c2⟩ := hw; go_simp; with_reducible rfl)); simp only [Act.put, List.setIfInBounds_toArray, List.set_cons_zero, List.set_cons_succ])
  refine wpQuiet_nil ?_
  intro K0 hK0
  rw [if_pos (by rfl)]
  go_simp
  refine (point_c _ x0 y0 hx0 hy0).mono ?_
  rintro e1 w1 ⟨rfl, hw1⟩
  have hk1 : ∀ k, k < W0.heap.size → w1.heap[k]? = W0.heap[k]? := fun k hk => hw1.block k hk
  have hblA : Below w.heap.size w w1 := hbl0.trans ((Below.refl w.heap.size W0).drew.trans (hw1.mono hbl0.size))
  have ownA := own_of hown0 (w' := w1) fun k _ hk => hk1 k (by obtain ⟨_, _, hx⟩ := hk; exact blk_lt hx)
  have heA := (hk1 _ hlt0).trans he0
  have hdA := (hk1 _ (by omega)).trans hd0
  clear hw1 hk1 he0 hd0 hbl0 hown0 hlt0 q0 q1 q2 fe
  have S1 : w1.cell? ⟨w.heap.size + 1, 1, none⟩ = some (.slice none 0 0) ∧ w1.cell? ⟨w.heap.size, 1, none⟩ = some (.int .i32 x0) ∧ w1.cell? ⟨w.heap.size, 2, none⟩ = some (.int .i32 y0) := ⟨by rw [blk_cell heA]; rfl, by rw [blk_cell hdA]; rfl, by rw [blk_cell hdA]; rfl⟩
  refine hK0 _ _ S1 fun K1 hK1 => ?_
  clear hK0 K0
  rw [if_pos (by rfl)]
  go_simp
  refine hK1 _ _ ⟨by rw [cell_past (blk_lt heA)]; exact S1.1, by rw [cell_past (blk_lt hdA)]; exact S1.2.1, by rw [cell_past (blk_lt hdA)]; exact S1.2.2⟩ fun K2 hK2 => ?_
  clear hK1 K1
  refine step_app_pt (base := w.heap.size) (vp := .slice none 0 0) (m := 0) (m' := 1) (xs := []) (a := w1.heap.size) (px := x0) (py := y0) (own_of ownA fun k _ hk => blk_alloc _ (by obtain ⟨_, _, hx⟩ := hk; exact blk_lt hx)) (by have := hblA.size; simp; omega) (by decide) rfl (blk_new _ _) (by rfl) _ _ (by rfl) (by rfl) (by rfl) ?_
  intro g1 c1 w3 hownC hgr
  simp only [Act.put, List.setIfInBounds_toArray, List.set_cons_zero, List.set_cons_succ]
  have heC := (hgr.block _ (by have := blk_lt heA; simp; omega) (fun e => own_ne ownA (isTy.ne heA (by decide)) e.symm)).trans ((blk_alloc _ (blk_lt heA)).trans heA)
  have hdC := (hgr.block _ (by have := blk_lt hdA; simp; omega) (fun e => own_ne ownA (isTy.ne hdA (by decide)) e.symm)).trans ((blk_alloc _ (blk_lt hdA)).trans hdA)
  have hblC : Below w.heap.size w w3 := (hblA.alloc hblA.size _).grown hgr (by have := hblA.size; simp; omega) (fun k hk => (own_ty ownA hk).2)
  clear hgr ownA heA hdA hblA
  have S3 : w3.cell? ⟨w.heap.size + 1, 1, none⟩ = some (.slice none 0 0) ∧ w3.cell? ⟨w.heap.size, 1, none⟩ = some (.int .i32 x0) ∧ w3.cell? ⟨w.heap.size, 2, none⟩ = some (.int .i32 y0) := ⟨by rw [blk_cell heC]; rfl, by rw [blk_cell hdC]; rfl, by rw [blk_cell hdC]; rfl⟩
  have fe3 := blk_free heC 1
  have s31 := S3.1
  refine hK2 _ _ S3 fun K3 hK3 => ?_
  clear hK2 K2
  rw [if_pos (by rfl)]
  go_simp
  refine hK3 _ _ S3 fun K4 hK4 => ?_
  clear hK3 K3
  rw [if_pos (by rfl)]
  go_simp
  refine hK4 _ _ ?_
  clear hK4 K4 S1 S3 s31 fe3
  have he1 : (w3.setCell ⟨w.heap.size + 1, 1, none⟩ (.slice (some ⟨g1, 0, none⟩) 1 c1)).heap[w.heap.size + 1]? = some (.cells #[.int .i64 0, .slice (some ⟨g1, 0, none⟩) 1 c1] 54 (0, 0)) := blk_set heC 1 _
  have hd1 : (w3.setCell ⟨w.heap.size + 1, 1, none⟩ (.slice (some ⟨g1, 0, none⟩) 1 c1)).heap[w.heap.size]? = some (.cells #[.int .u32 0, .int .i32 x0, .int .i32 y0, .int .i32 0, .int .i32 0, .int .i32 0, .int .i32 0] 112 (0, 0)) := (blk_set_ne 1 _ (by omega)).trans hdC
  have hown1 : (w3.setCell ⟨w.heap.size + 1, 1, none⟩ (.slice (some ⟨g1, 0, none⟩) 1 c1)).ownsRow w.heap.size 55 2 (.slice (some ⟨g1, 0, none⟩) 1 c1) 1 [.int .i64 x0, .int .i64 y0] := own_of hownC fun k _ hk => blk_set_ne 1 _ (ty_ne hk heC (by decide))
  have hbl1 : Below w.heap.size w (w3.setCell ⟨w.heap.size + 1, 1, none⟩ (.slice (some ⟨g1, 0, none⟩) 1 c1)) := hblC.setCell (by simp) _
  clear heC hdC hownC hblC
  generalize w3.setCell ⟨w.heap.size + 1, 1, none⟩ (.slice (some ⟨g1, 0, none⟩) 1 c1) = W1 at he1 hd1 hown1 hbl1 ⊢
  obtain ⟨hgb, hpb⟩ := PtBlk.of_own (pts := [(x0, y0)]) hown1 (by decide) rfl
  have he0 : W1.cell? ⟨w.heap.size + 1, 0, none⟩ = some (.int .i64 0) := by rw [blk_cell he1]; rfl
  have hec : W1.cell? ⟨w.heap.size + 1, 1, none⟩ = some (.slice (some ⟨g1, 0, none⟩) 1 c1) := by rw [blk_cell he1]; rfl
  have hov : Hid (W1.ownsRow B 54 2 vo i ys) := Lib.hid (own_of HV.out fun k _ hk => hbl1.block k (by obtain ⟨_, _, hx⟩ := hk; exact blk_lt hx))
  clear he1 hd1 hown1
  go_wp2_with fail
  rw [rounds_succ]
  obtain ⟨i0, hi0, hz0, hz1, hz2⟩ := info_parts info54
  go_wp2_with (at_builtin; go_loud (refine wpList_append_own _ rfl _ _ 27 rfl B 54 i0 _ 2 32 und27 hi0 hz0 hz1 hz2 rfl (by decide) vo i ys rfl (own_of hov.out fun k _ hk => blk_alloc _ (by obtain ⟨_, _, hx⟩ := hk; exact blk_lt hx)) ⟨W1.heap.size, 0, none⟩ 1 1 [.int .i64 0, .slice (some ⟨g1, 0, none⟩) 1 c1] rfl rfl ?_ ?_ (by unfold maxLen; omega) (by omega) (by have := hbl1.size; simp; omega) ?_))
  · intro j u hj
    rw [Addr.add_lit, Nat.zero_add, blk_cell (blk_new _ _)]
    simpa using hj
  · intro u hu
    simp only [List.mem_cons, List.mem_nil_iff, or_false] at hu
    rcases hu with rfl | rfl <;> rfl
  · intro v' w' hown' hgr' _
    have hs' : W1.heap.size ≤ w'.heap.size := Nat.le_trans (by simp) hgr'.size
    go_wp2_with fail
    refine HQ.out _ _ _ _ _ ⟨rfl, rfl, rfl, rfl, rfl⟩ hown' hgb ?_ (Nat.le_trans hbl1.size hs') (hgr'.os.trans hbl1.os) (hgr'.tape.trans hbl1.tape) (hgr'.output.trans hbl1.output) ?_
    · obtain ⟨cur, m, k1, k2⟩ := hpb
      exact ⟨cur, m, (hgr'.block _ (by have := blk_lt k1; simp; omega) (fun e => own_ne hov.out (isTy.ne k1 (by decide)) e.symm)).trans ((blk_alloc _ (blk_lt k1)).trans k1), k2⟩
    · intro k hk hne
      have hk2 : k < W1.heap.size := Nat.lt_of_lt_of_le hk hbl1.size
      exact (hgr'.block k (by simp; omega) hne).trans ((blk_alloc _ hk2).trans (hbl1.block k hk))
set_option maxRecDepth 100000 in
set_option maxHeartbeats 4000000 in
theorem seg_r1 {vo : Value} {ys : List Value} {x0 y0 : Int} (hQp : ∀ c (a : Act) d v w, Q (.panic c) (a.put d v) w → Q (.panic c) a w) (hi : i < k) (hkc : k ≤ 100000) (hlt : sb < w.heap.size) (hx0 : -2000000 ≤ x0 ∧ x0 ≤ 2000000) (hy0 : -2000000 ≤ y0 ∧ y0 ≤ 2000000)
    (h0 : w.cell? ⟨sb, i * 7, none⟩ = some (.int .u32 1)) (h1 : w.cell? ⟨sb, i * 7 + 1, none⟩ = some (.int .i32 x0)) (h2 : w.cell? ⟨sb, i * 7 + 2, none⟩ = some (.int .i32 y0)) (h3 : w.cell? ⟨sb, i * 7 + 3, none⟩ = some (.int .i32 0)) (h4 : w.cell? ⟨sb, i * 7 + 4, none⟩ = some (.int .i32 0)) (h5 : w.cell? ⟨sb, i * 7 + 5, none⟩ = some (.int .i32 0)) (h6 : w.cell? ⟨sb, i * 7 + 6, none⟩ = some (.int .i32 0)) (hB : B ≤ w.heap.size) (hvo : w.ownsRow B 54 2 vo i ys)
    (hQ : ∀ t w' vo' g c', Fx15 (.slice (some ⟨sb, 0, none⟩) k c) vo' k (i + 1) t → w'.ownsRow B 54 2 vo' (i + 1) (ys ++ [.int .i64 1, .slice (some ⟨g, 0, none⟩) 1 c']) → w.heap.size ≤ g → PtBlk g [(x0, y0)] w' → w.heap.size ≤ w'.heap.size → w'.os = w.os → w'.tape = w.tape → w'.output = w.output →
      (∀ k, k < w.heap.size → some k ≠ vo.ownBlock → w'.heap[k]? = w.heap[k]?) → Q .normal ⟨t, []⟩ w') :
    Code.wp Tryz.prog body15 Q ⟨fr15 (.slice (some ⟨sb, 0, none⟩) k c) vo k i u, []⟩ w := by
  have HQ := Lib.hid hQ
  have HV := Lib.hid hvo
  clear hQ hvo
  conv => arg 2; whnf
  unfold fr15
  go_wp2_with fail
  refine wp_loop_rounds 2 ?_
  rw [rounds_succ]
  go_wp2_with fail
  generalize hW : (w.alloc (.cells #[.int .u32 1, .int .i32 x0, .int .i32 y0, .int .i32 0, .int .i32 0, .int .i32 0, .int .i32 0] 112)).alloc (.cells #[.int .i64 1, .slice none 0 0] 54) = W0
  have hd0 : W0.heap[w.heap.size]? = some (.cells #[.int .u32 1, .int .i32 x0, .int .i32 y0, .int .i32 0, .int .i32 0, .int .i32 0, .int .i32 0] 112 (0, 0)) := by rw [← hW, blk_alloc _ (by simp)]; exact blk_new w _
  have he0 : W0.heap[w.heap.size + 1]? = some (.cells #[.int .i64 1, .slice none 0 0] 54 (0, 0)) := by rw [← hW]; exact blk_at _ _ (by simp)
  have hbl0 : Below w.heap.size w W0 := by rw [← hW]; exact ((Below.refl _ w).alloc (Nat.le_refl _) _).alloc (by simp) _
  have hown0 : W0.ownsRow w.heap.size 55 2 (.slice none 0 0) 0 [] := World.ownsRow_nil _ _ _ _
  clear hW h0 h1 h2 h3 h4 h5 h6
  have hlt0 : w.heap.size + 1 < W0.heap.size := blk_lt he0
  have q0 : W0.cell? ⟨w.heap.size + 1, 1, none⟩ = some (.slice none 0 0) := by rw [blk_cell he0]; rfl
  have q1 : W0.cell? ⟨w.heap.size, 1, none⟩ = some (.int .i32 x0) := by rw [blk_cell hd0]; rfl
  have q2 : W0.cell? ⟨w.heap.size, 2, none⟩ = some (.int .i32 y0) := by rw [blk_cell hd0]; rfl
  have fe := blk_free he0 1
  refine wp_region_11 (S := fun w' => w'.cell? ⟨w.heap.size + 1, 1, none⟩ = some (.slice none 0 0) ∧ w'.cell? ⟨w.heap.size, 1, none⟩ = some (.int .i32 x0) ∧ w'.cell? ⟨w.heap.size, 2, none⟩ = some (.int .i32 y0))
    (by kernel_rfl) (by kernel_rfl) (by kernel_rfl) (by kernel_rfl) (by kernel_rfl) (by kernel_rfl) (by kernel_rfl) (by kernel_rfl) (by kernel_rfl) (fun _ _ _ _ _ h => hQp _ _ _ _ _ h) ⟨q0, q1, q2⟩ ?_
  iterate 6 (refine' wpQ_one (by rfl) ?_ ?_; rotate_left; (focus (intro w' hw; obtain ⟨c0, c1, c2⟩ := hw; go_simp; with_reducible rfl)); simp only [Act.put, List.setIfInBounds_toArray, List.set_cons_zero, List.set_cons_succ])
  refine wpQuiet_nil ?_
  intro K0 hK0
  rw [if_pos (by rfl)]
  go_simp
  refine (point_c _ x0 y0 hx0 hy0).mono ?_
  rintro e1 w1 ⟨rfl, hw1⟩
  have hk1 : ∀ k, k < W0.heap.size → w1.heap[k]? = W0.heap[k]? := fun k hk => hw1.block k hk
  have hblA : Below w.heap.size w w1 := hbl0.trans ((Below.refl w.heap.size W0).drew.trans (hw1.mono hbl0.size))
  have ownA := own_of hown0 (w' := w1) fun k _ hk => hk1 k (by obtain ⟨_, _, hx⟩ := hk; exact blk_lt hx)
  have heA := (hk1 _ hlt0).trans he0
  have hdA := (hk1 _ (by omega)).trans hd0
  clear hw1 hk1 he0 hd0 hbl0 hown0 hlt0 q0 q1 q2 fe
  have S1 : w1.cell? ⟨w.heap.size + 1, 1, none⟩ = some (.slice none 0 0) ∧ w1.cell? ⟨w.heap.size, 1, none⟩ = some (.int .i32 x0) ∧ w1.cell? ⟨w.heap.size, 2, none⟩ = some (.int .i32 y0) := ⟨by rw [blk_cell heA]; rfl, by rw [blk_cell hdA]; rfl, by rw [blk_cell hdA]; rfl⟩
  refine hK0 _ _ S1 fun K1 hK1 => ?_
  clear hK0 K0
  rw [if_pos (by rfl)]
  go_simp
  refine hK1 _ _ ⟨by rw [cell_past (blk_lt heA)]; exact S1.1, by rw [cell_past (blk_lt hdA)]; exact S1.2.1, by rw [cell_past (blk_lt hdA)]; exact S1.2.2⟩ fun K2 hK2 => ?_
  clear hK1 K1
  refine step_app_pt (base := w.heap.size) (vp := .slice none 0 0) (m := 0) (m' := 1) (xs := []) (a := w1.heap.size) (px := x0) (py := y0) (own_of ownA fun k _ hk => blk_alloc _ (by obtain ⟨_, _, hx⟩ := hk; exact blk_lt hx)) (by have := hblA.size; simp; omega) (by decide) rfl (blk_new _ _) (by rfl) _ _ (by rfl) (by rfl) (by rfl) ?_
  intro g1 c1 w3 hownC hgr
  simp only [Act.put, List.setIfInBounds_toArray, List.set_cons_zero, List.set_cons_succ]
  have heC := (hgr.block _ (by have := blk_lt heA; simp; omega) (fun e => own_ne ownA (isTy.ne heA (by decide)) e.symm)).trans ((blk_alloc _ (blk_lt heA)).trans heA)
  have hdC := (hgr.block _ (by have := blk_lt hdA; simp; omega) (fun e => own_ne ownA (isTy.ne hdA (by decide)) e.symm)).trans ((blk_alloc _ (blk_lt hdA)).trans hdA)
  have hblC : Below w.heap.size w w3 := (hblA.alloc hblA.size _).grown hgr (by have := hblA.size; simp; omega) (fun k hk => (own_ty ownA hk).2)
  clear hgr ownA heA hdA hblA
  have S3 : w3.cell? ⟨w.heap.size + 1, 1, none⟩ = some (.slice none 0 0) ∧ w3.cell? ⟨w.heap.size, 1, none⟩ = some (.int .i32 x0) ∧ w3.cell? ⟨w.heap.size, 2, none⟩ = some (.int .i32 y0) := ⟨by rw [blk_cell heC]; rfl, by rw [blk_cell hdC]; rfl, by rw [blk_cell hdC]; rfl⟩
  have fe3 := blk_free heC 1
  have s31 := S3.1
  refine hK2 _ _ S3 fun K3 hK3 => ?_
  clear hK2 K2
  rw [if_pos (by rfl)]
  go_simp
  refine hK3 _ _ S3 fun K4 hK4 => ?_
  clear hK3 K3
  rw [if_pos (by rfl)]
  go_simp
  refine hK4 _ _ ?_
  clear hK4 K4 S1 S3 s31 fe3
  have he1 : (w3.setCell ⟨w.heap.size + 1, 1, none⟩ (.slice (some ⟨g1, 0, none⟩) 1 c1)).heap[w.heap.size + 1]? = some (.cells #[.int .i64 1, .slice (some ⟨g1, 0, none⟩) 1 c1] 54 (0, 0)) := blk_set heC 1 _
  have hd1 : (w3.setCell ⟨w.heap.size + 1, 1, none⟩ (.slice (some ⟨g1, 0, none⟩) 1 c1)).heap[w.heap.size]? = some (.cells #[.int .u32 1, .int .i32 x0, .int .i32 y0, .int .i32 0, .int .i32 0, .int .i32 0, .int .i32 0] 112 (0, 0)) := (blk_set_ne 1 _ (by omega)).trans hdC
  have hown1 : (w3.setCell ⟨w.heap.size + 1, 1, none⟩ (.slice (some ⟨g1, 0, none⟩) 1 c1)).ownsRow w.heap.size 55 2 (.slice (some ⟨g1, 0, none⟩) 1 c1) 1 [.int .i64 x0, .int .i64 y0] := own_of hownC fun k _ hk => blk_set_ne 1 _ (ty_ne hk heC (by decide))
  have hbl1 : Below w.heap.size w (w3.setCell ⟨w.heap.size + 1, 1, none⟩ (.slice (some ⟨g1, 0, none⟩) 1 c1)) := hblC.setCell (by simp) _
  clear heC hdC hownC hblC
  generalize w3.setCell ⟨w.heap.size + 1, 1, none⟩ (.slice (some ⟨g1, 0, none⟩) 1 c1) = W1 at he1 hd1 hown1 hbl1 ⊢
  obtain ⟨hgb, hpb⟩ := PtBlk.of_own (pts := [(x0, y0)]) hown1 (by decide) rfl
  have he0 : W1.cell? ⟨w.heap.size + 1, 0, none⟩ = some (.int .i64 1) := by rw [blk_cell he1]; rfl
  have hec : W1.cell? ⟨w.heap.size + 1, 1, none⟩ = some (.slice (some ⟨g1, 0, none⟩) 1 c1) := by rw [blk_cell he1]; rfl
  have hov : Hid (W1.ownsRow B 54 2 vo i ys) := Lib.hid (own_of HV.out fun k _ hk => hbl1.block k (by obtain ⟨_, _, hx⟩ := hk; exact blk_lt hx))
  clear he1 hd1 hown1
  go_wp2_with fail
  rw [rounds_succ]
  obtain ⟨i0, hi0, hz0, hz1, hz2⟩ := info_parts info54
  go_wp2_with (at_builtin; go_loud (refine wpList_append_own _ rfl _ _ 27 rfl B 54 i0 _ 2 32 und27 hi0 hz0 hz1 hz2 rfl (by decide) vo i ys rfl (own_of hov.out fun k _ hk => blk_alloc _ (by obtain ⟨_, _, hx⟩ := hk; exact blk_lt hx)) ⟨W1.heap.size, 0, none⟩ 1 1 [.int .i64 1, .slice (some ⟨g1, 0, none⟩) 1 c1] rfl rfl ?_ ?_ (by unfold maxLen; omega) (by omega) (by have := hbl1.size; simp; omega) ?_))
  · intro j u hj
    rw [Addr.add_lit, Nat.zero_add, blk_cell (blk_new _ _)]
    simpa using hj
  · intro u hu
    simp only [List.mem_cons, List.mem_nil_iff, or_false] at hu
    rcases hu with rfl | rfl <;> rfl
  · intro v' w' hown' hgr' _
    have hs' : W1.heap.size ≤ w'.heap.size := Nat.le_trans (by simp) hgr'.size
    go_wp2_with fail
    refine HQ.out _ _ _ _ _ ⟨rfl, rfl, rfl, rfl, rfl⟩ hown' hgb ?_ (Nat.le_trans hbl1.size hs') (hgr'.os.trans hbl1.os) (hgr'.tape.trans hbl1.tape) (hgr'.output.trans hbl1.output) ?_
    · obtain ⟨cur, m, k1, k2⟩ := hpb
      exact ⟨cur, m, (hgr'.block _ (by have := blk_lt k1; simp; omega) (fun e => own_ne hov.out (isTy.ne k1 (by decide)) e.symm)).trans ((blk_alloc _ (blk_lt k1)).trans k1), k2⟩
    · intro k hk hne
      have hk2 : k < W1.heap.size := Nat.lt_of_lt_of_le hk hbl1.size
      exact (hgr'.block k (by simp; omega) hne).trans ((blk_alloc _ hk2).trans (hbl1.block k hk))
set_option maxRecDepth 100000 in
set_option maxHeartbeats 4000000 in
theorem seg_r3 {vo : Value} {ys : List Value} {x0 y0 x1 y1 x2 y2 : Int} (hQp : ∀ c (a : Act) d v w, Q (.panic c) (a.put d v) w → Q (.panic c) a w) (hi : i < k) (hkc : k ≤ 100000) (hlt : sb < w.heap.size) (hx0 : -2000000 ≤ x0 ∧ x0 ≤ 2000000) (hy0 : -2000000 ≤ y0 ∧ y0 ≤ 2000000) (hx1 : -2000000 ≤ x1 ∧ x1 ≤ 2000000) (hy1 : -2000000 ≤ y1 ∧ y1 ≤ 2000000) (hx2 : -2000000 ≤ x2 ∧ x2 ≤ 2000000) (hy2 : -2000000 ≤ y2 ∧ y2 ≤ 2000000)
    (h0 : w.cell? ⟨sb, i * 7, none⟩ = some (.int .u32 3)) (h1 : w.cell? ⟨sb, i * 7 + 1, none⟩ = some (.int .i32 x0)) (h2 : w.cell? ⟨sb, i * 7 + 2, none⟩ = some (.int .i32 y0)) (h3 : w.cell? ⟨sb, i * 7 + 3, none⟩ = some (.int .i32 x1)) (h4 : w.cell? ⟨sb, i * 7 + 4, none⟩ = some (.int .i32 y1)) (h5 : w.cell? ⟨sb, i * 7 + 5, none⟩ = some (.int .i32 x2)) (h6 : w.cell? ⟨sb, i * 7 + 6, none⟩ = some (.int .i32 y2)) (hB : B ≤ w.heap.size) (hvo : w.ownsRow B 54 2 vo i ys)
    (hQ : ∀ t w' vo' g c', Fx15 (.slice (some ⟨sb, 0, none⟩) k c) vo' k (i + 1) t → w'.ownsRow B 54 2 vo' (i + 1) (ys ++ [.int .i64 3, .slice (some ⟨g, 0, none⟩) 3 c']) → w.heap.size ≤ g → PtBlk g [(x0, y0), (x1, y1), (x2, y2)] w' → w.heap.size ≤ w'.heap.size → w'.os = w.os → w'.tape = w.tape → w'.output = w.output →
      (∀ k, k < w.heap.size → some k ≠ vo.ownBlock → w'.heap[k]? = w.heap[k]?) → Q .normal ⟨t, []⟩ w') :
    Code.wp Tryz.prog body15 Q ⟨fr15 (.slice (some ⟨sb, 0, none⟩) k c) vo k i u, []⟩ w := by
  have HQ := Lib.hid hQ
  have HV := Lib.hid hvo
  clear hQ hvo
  conv => arg 2; whnf
  unfold fr15
  go_wp2_with fail
  refine wp_loop_rounds 4 ?_
  rw [rounds_succ]
  go_wp2_with fail
  generalize hW : (w.alloc (.cells #[.int .u32 3, .int .i32 x0, .int .i32 y0, .int .i32 x1, .int .i32 y1, .int .i32 x2, .int .i32 y2] 112)).alloc (.cells #[.int .i64 3, .slice none 0 0] 54) = W0
  have hd0 : W0.heap[w.heap.size]? = some (.cells #[.int .u32 3, .int .i32 x0, .int .i32 y0, .int .i32 x1, .int .i32 y1, .int .i32 x2, .int .i32 y2] 112 (0, 0)) := by rw [← hW, blk_alloc _ (by simp)]; exact blk_new w _
  have he0 : W0.heap[w.heap.size + 1]? = some (.cells #[.int .i64 3, .slice none 0 0] 54 (0, 0)) := by rw [← hW]; exact blk_at _ _ (by simp)
  have hbl0 : Below w.heap.size w W0 := by rw [← hW]; exact ((Below.refl _ w).alloc (Nat.le_refl _) _).alloc (by simp) _
  have hown0 : W0.ownsRow w.heap.size 55 2 (.slice none 0 0) 0 [] := World.ownsRow_nil _ _ _ _
  clear hW h0 h1 h2 h3 h4 h5 h6
  have hlt0 : w.heap.size + 1 < W0.heap.size := blk_lt he0
  have q0 : W0.cell? ⟨w.heap.size + 1, 1, none⟩ = some (.slice none 0 0) := by rw [blk_cell he0]; rfl
  have q1 : W0.cell? ⟨w.heap.size, 1, none⟩ = some (.int .i32 x0) := by rw [blk_cell hd0]; rfl
  have q2 : W0.cell? ⟨w.heap.size, 2, none⟩ = some (.int .i32 y0) := by rw [blk_cell hd0]; rfl
  have fe := blk_free he0 1
  refine wp_region_11 (S := fun w' => w'.cell? ⟨w.heap.size + 1, 1, none⟩ = some (.slice none 0 0) ∧ w'.cell? ⟨w.heap.size, 1, none⟩ = some (.int .i32 x0) ∧ w'.cell? ⟨w.heap.size, 2, none⟩ = some (.int .i32 y0))
    (by kernel_rfl) (by kernel_rfl) (by kernel_rfl) (by kernel_rfl) (by kernel_rfl) (by kernel_rfl) (by kernel_rfl) (by kernel_rfl) (by kernel_rfl) (fun _ _ _ _ _ h => hQp _ _ _ _ _ h) ⟨q0, q1, q2⟩ ?_
  iterate 6 (refine' wpQ_one (by rfl) ?_ ?_; rotate_left; (focus (intro w' hw; obtain ⟨c0, c1, c2⟩ := hw; go_simp; with_reducible rfl)); simp only [Act.put, List.setIfInBounds_toArray, List.set_cons_zero, List.set_cons_succ])
  refine wpQuiet_nil ?_
  intro K0 hK0
  rw [if_pos (by rfl)]
  go_simp
  refine (point_c _ x0 y0 hx0 hy0).mono ?_
  rintro e1 w1 ⟨rfl, hw1⟩
  have hk1 : ∀ k, k < W0.heap.size → w1.heap[k]? = W0.heap[k]? := fun k hk => hw1.block k hk
  have hblA : Below w.heap.size w w1 := hbl0.trans ((Below.refl w.heap.size W0).drew.trans (hw1.mono hbl0.size))
  have ownA := own_of hown0 (w' := w1) fun k _ hk => hk1 k (by obtain ⟨_, _, hx⟩ := hk; exact blk_lt hx)
  have heA := (hk1 _ hlt0).trans he0
  have hdA := (hk1 _ (by omega)).trans hd0
  clear hw1 hk1 he0 hd0 hbl0 hown0 hlt0 q0 q1 q2 fe
  have S1 : w1.cell? ⟨w.heap.size + 1, 1, none⟩ = some (.slice none 0 0) ∧ w1.cell? ⟨w.heap.size, 1, none⟩ = some (.int .i32 x0) ∧ w1.cell? ⟨w.heap.size, 2, none⟩ = some (.int .i32 y0) := ⟨by rw [blk_cell heA]; rfl, by rw [blk_cell hdA]; rfl, by rw [blk_cell hdA]; rfl⟩
  refine hK0 _ _ S1 fun K1 hK1 => ?_
  clear hK0 K0
  rw [if_pos (by rfl)]
  go_simp
  refine hK1 _ _ ⟨by rw [cell_past (blk_lt heA)]; exact S1.1, by rw [cell_past (blk_lt hdA)]; exact S1.2.1, by rw [cell_past (blk_lt hdA)]; exact S1.2.2⟩ fun K2 hK2 => ?_
  clear hK1 K1
  refine step_app_pt (base := w.heap.size) (vp := .slice none 0 0) (m := 0) (m' := 1) (xs := []) (a := w1.heap.size) (px := x0) (py := y0) (own_of ownA fun k _ hk => blk_alloc _ (by obtain ⟨_, _, hx⟩ := hk; exact blk_lt hx)) (by have := hblA.size; simp; omega) (by decide) rfl (blk_new _ _) (by rfl) _ _ (by rfl) (by rfl) (by rfl) ?_
  intro g1 c1 w3 hownC hgr
  simp only [Act.put, List.setIfInBounds_toArray, List.set_cons_zero, List.set_cons_succ]
  have heC := (hgr.block _ (by have := blk_lt heA; simp; omega) (fun e => own_ne ownA (isTy.ne heA (by decide)) e.symm)).trans ((blk_alloc _ (blk_lt heA)).trans heA)
  have hdC := (hgr.block _ (by have := blk_lt hdA; simp; omega) (fun e => own_ne ownA (isTy.ne hdA (by decide)) e.symm)).trans ((blk_alloc _ (blk_lt hdA)).trans hdA)
  have hblC : Below w.heap.size w w3 := (hblA.alloc hblA.size _).grown hgr (by have := hblA.size; simp; omega) (fun k hk => (own_ty ownA hk).2)
  clear hgr ownA heA hdA hblA
  have S3 : w3.cell? ⟨w.heap.size + 1, 1, none⟩ = some (.slice none 0 0) ∧ w3.cell? ⟨w.heap.size, 1, none⟩ = some (.int .i32 x0) ∧ w3.cell? ⟨w.heap.size, 2, none⟩ = some (.int .i32 y0) := ⟨by rw [blk_cell heC]; rfl, by rw [blk_cell hdC]; rfl, by rw [blk_cell hdC]; rfl⟩
  have fe3 := blk_free heC 1
  have s31 := S3.1
  refine hK2 _ _ S3 fun K3 hK3 => ?_
  clear hK2 K2
  rw [if_pos (by rfl)]
  go_simp
  refine hK3 _ _ S3 fun K4 hK4 => ?_
  clear hK3 K3
  rw [if_pos (by rfl)]
  go_simp
  refine hK4 _ _ ?_
  clear hK4 K4 S1 S3 s31 fe3
  have he1 : (w3.setCell ⟨w.heap.size + 1, 1, none⟩ (.slice (some ⟨g1, 0, none⟩) 1 c1)).heap[w.heap.size + 1]? = some (.cells #[.int .i64 3, .slice (some ⟨g1, 0, none⟩) 1 c1] 54 (0, 0)) := blk_set heC 1 _
  have hd1 : (w3.setCell ⟨w.heap.size + 1, 1, none⟩ (.slice (some ⟨g1, 0, none⟩) 1 c1)).heap[w.heap.size]? = some (.cells #[.int .u32 3, .int .i32 x0, .int .i32 y0, .int .i32 x1, .int .i32 y1, .int .i32 x2, .int .i32 y2] 112 (0, 0)) := (blk_set_ne 1 _ (by omega)).trans hdC
  have hown1 : (w3.setCell ⟨w.heap.size + 1, 1, none⟩ (.slice (some ⟨g1, 0, none⟩) 1 c1)).ownsRow w.heap.size 55 2 (.slice (some ⟨g1, 0, none⟩) 1 c1) 1 [.int .i64 x0, .int .i64 y0] := own_of hownC fun k _ hk => blk_set_ne 1 _ (ty_ne hk heC (by decide))
  have hbl1 : Below w.heap.size w (w3.setCell ⟨w.heap.size + 1, 1, none⟩ (.slice (some ⟨g1, 0, none⟩) 1 c1)) := hblC.setCell (by simp) _
  clear heC hdC hownC hblC
  generalize w3.setCell ⟨w.heap.size + 1, 1, none⟩ (.slice (some ⟨g1, 0, none⟩) 1 c1) = W1 at he1 hd1 hown1 hbl1 ⊢
  go_wp2_with fail
  rw [rounds_succ]
  go_wp2_with fail
  have hlt1 : w.heap.size + 1 < W1.heap.size := blk_lt he1
  have q0 : W1.cell? ⟨w.heap.size + 1, 1, none⟩ = some (.slice (some ⟨g1, 0, none⟩) 1 c1) := by rw [blk_cell he1]; rfl
  have q1 : W1.cell? ⟨w.heap.size, 3, none⟩ = some (.int .i32 x1) := by rw [blk_cell hd1]; rfl
  have q2 : W1.cell? ⟨w.heap.size, 4, none⟩ = some (.int .i32 y1) := by rw [blk_cell hd1]; rfl
  have fe := blk_free he1 1
  refine wp_region_11 (S := fun w' => w'.cell? ⟨w.heap.size + 1, 1, none⟩ = some (.slice (some ⟨g1, 0, none⟩) 1 c1) ∧ w'.cell? ⟨w.heap.size, 3, none⟩ = some (.int .i32 x1) ∧ w'.cell? ⟨w.heap.size, 4, none⟩ = some (.int .i32 y1))
    (by kernel_rfl) (by kernel_rfl) (by kernel_rfl) (by kernel_rfl) (by kernel_rfl) (by kernel_rfl) (by kernel_rfl) (by kernel_rfl) (by kernel_rfl) (fun _ _ _ _ _ h => hQp _ _ _ _ _ h) ⟨q0, q1, q2⟩ ?_
  iterate 6 (refine' wpQ_one (by rfl) ?_ ?_; rotate_left; (focus (intro w' hw; obtain ⟨c0, c1, c2⟩ := hw; go_simp; with_reducible rfl)); simp only [Act.put, List.setIfInBounds_toArray, List.set_cons_zero, List.set_cons_succ])
  refine wpQuiet_nil ?_
  intro K0 hK0
  rw [if_pos (by rfl)]
  go_simp
  refine (point_c _ x1 y1 hx1 hy1).mono ?_
  rintro e1 w1 ⟨rfl, hw1⟩
  have hk1 : ∀ k, k < W1.heap.size → w1.heap[k]? = W1.heap[k]? := fun k hk => hw1.block k hk
  have hblA : Below w.heap.size w w1 := hbl1.trans ((Below.refl w.heap.size W1).drew.trans (hw1.mono hbl1.size))
  have ownA := own_of hown1 (w' := w1) fun k _ hk => hk1 k (by obtain ⟨_, _, hx⟩ := hk; exact blk_lt hx)
  have heA := (hk1 _ hlt1).trans he1
  have hdA := (hk1 _ (by omega)).trans hd1
  clear hw1 hk1 he1 hd1 hbl1 hown1 hlt1 q0 q1 q2 fe
  have S1 : w1.cell? ⟨w.heap.size + 1, 1, none⟩ = some (.slice (some ⟨g1, 0, none⟩) 1 c1) ∧ w1.cell? ⟨w.heap.size, 3, none⟩ = some (.int .i32 x1) ∧ w1.cell? ⟨w.heap.size, 4, none⟩ = some (.int .i32 y1) := ⟨by rw [blk_cell heA]; rfl, by rw [blk_cell hdA]; rfl, by rw [blk_cell hdA]; rfl⟩
  refine hK0 _ _ S1 fun K1 hK1 => ?_
  clear hK0 K0
  rw [if_pos (by rfl)]
  go_simp
  refine hK1 _ _ ⟨by rw [cell_past (blk_lt heA)]; exact S1.1, by rw [cell_past (blk_lt hdA)]; exact S1.2.1, by rw [cell_past (blk_lt hdA)]; exact S1.2.2⟩ fun K2 hK2 => ?_
  clear hK1 K1
  refine step_app_pt (base := w.heap.size) (vp := .slice (some ⟨g1, 0, none⟩) 1 c1) (m := 1) (m' := 2) (xs := [.int .i64 x0, .int .i64 y0]) (a := w1.heap.size) (px := x1) (py := y1) (own_of ownA fun k _ hk => blk_alloc _ (by obtain ⟨_, _, hx⟩ := hk; exact blk_lt hx)) (by have := hblA.size; simp; omega) (by decide) rfl (blk_new _ _) (by rfl) _ _ (by rfl) (by rfl) (by rfl) ?_
  intro g2 c2 w3 hownC hgr
  simp only [Act.put, List.setIfInBounds_toArray, List.set_cons_zero, List.set_cons_succ]
  have heC := (hgr.block _ (by have := blk_lt heA; simp; omega) (fun e => own_ne ownA (isTy.ne heA (by decide)) e.symm)).trans ((blk_alloc _ (blk_lt heA)).trans heA)
  have hdC := (hgr.block _ (by have := blk_lt hdA; simp; omega) (fun e => own_ne ownA (isTy.ne hdA (by decide)) e.symm)).trans ((blk_alloc _ (blk_lt hdA)).trans hdA)
  have hblC : Below w.heap.size w w3 := (hblA.alloc hblA.size _).grown hgr (by have := hblA.size; simp; omega) (fun k hk => (own_ty ownA hk).2)
  clear hgr ownA heA hdA hblA
  have S3 : w3.cell? ⟨w.heap.size + 1, 1, none⟩ = some (.slice (some ⟨g1, 0, none⟩) 1 c1) ∧ w3.cell? ⟨w.heap.size, 3, none⟩ = some (.int .i32 x1) ∧ w3.cell? ⟨w.heap.size, 4, none⟩ = some (.int .i32 y1) := ⟨by rw [blk_cell heC]; rfl, by rw [blk_cell hdC]; rfl, by rw [blk_cell hdC]; rfl⟩
  have fe3 := blk_free heC 1
  have s31 := S3.1
  refine hK2 _ _ S3 fun K3 hK3 => ?_
  clear hK2 K2
  rw [if_pos (by rfl)]
  go_simp
  refine hK3 _ _ S3 fun K4 hK4 => ?_
  clear hK3 K3
  rw [if_pos (by rfl)]
  go_simp
  refine hK4 _ _ ?_
  clear hK4 K4 S1 S3 s31 fe3
  have he2 : (w3.setCell ⟨w.heap.size + 1, 1, none⟩ (.slice (some ⟨g2, 0, none⟩) 2 c2)).heap[w.heap.size + 1]? = some (.cells #[.int .i64 3, .slice (some ⟨g2, 0, none⟩) 2 c2] 54 (0, 0)) := blk_set heC 1 _
  have hd2 : (w3.setCell ⟨w.heap.size + 1, 1, none⟩ (.slice (some ⟨g2, 0, none⟩) 2 c2)).heap[w.heap.size]? = some (.cells #[.int .u32 3, .int .i32 x0, .int .i32 y0, .int .i32 x1, .int .i32 y1, .int .i32 x2, .int .i32 y2] 112 (0, 0)) := (blk_set_ne 1 _ (by omega)).trans hdC
  have hown2 : (w3.setCell ⟨w.heap.size + 1, 1, none⟩ (.slice (some ⟨g2, 0, none⟩) 2 c2)).ownsRow w.heap.size 55 2 (.slice (some ⟨g2, 0, none⟩) 2 c2) 2 [.int .i64 x0, .int .i64 y0, .int .i64 x1, .int .i64 y1] := own_of hownC fun k _ hk => blk_set_ne 1 _ (ty_ne hk heC (by decide))
  have hbl2 : Below w.heap.size w (w3.setCell ⟨w.heap.size + 1, 1, none⟩ (.slice (some ⟨g2, 0, none⟩) 2 c2)) := hblC.setCell (by simp) _
  clear heC hdC hownC hblC
  generalize w3.setCell ⟨w.heap.size + 1, 1, none⟩ (.slice (some ⟨g2, 0, none⟩) 2 c2) = W2 at he2 hd2 hown2 hbl2 ⊢
  go_wp2_with fail
  rw [rounds_succ]
  go_wp2_with fail
  have hlt2 : w.heap.size + 1 < W2.heap.size := blk_lt he2
  have q0 : W2.cell? ⟨w.heap.size + 1, 1, none⟩ = some (.slice (some ⟨g2, 0, none⟩) 2 c2) := by rw [blk_cell he2]; rfl
  have q1 : W2.cell? ⟨w.heap.size, 5, none⟩ = some (.int .i32 x2) := by rw [blk_cell hd2]; rfl
  have q2 : W2.cell? ⟨w.heap.size, 6, none⟩ = some (.int .i32 y2) := by rw [blk_cell hd2]; rfl
  have fe := blk_free he2 1
  refine wp_region_11 (S := fun w' => w'.cell? ⟨w.heap.size + 1, 1, none⟩ = some (.slice (some ⟨g2, 0, none⟩) 2 c2) ∧ w'.cell? ⟨w.heap.size, 5, none⟩ = some (.int .i32 x2) ∧ w'.cell? ⟨w.heap.size, 6, none⟩ = some (.int .i32 y2))
    (by kernel_rfl) (by kernel_rfl) (by kernel_rfl) (by kernel_rfl) (by kernel_rfl) (by kernel_rfl) (by kernel_rfl) (by kernel_rfl) (by kernel_rfl) (fun _ _ _ _ _ h => hQp _ _ _ _ _ h) ⟨q0, q1, q2⟩ ?_
  iterate 6 (refine' wpQ_one (by rfl) ?_ ?_; rotate_left; (focus (intro w' hw; obtain ⟨c0, c1, c2⟩ := hw; go_simp; with_reducible rfl)); simp only [Act.put, List.setIfInBounds_toArray, List.set_cons_zero, List.set_cons_succ])
  refine wpQuiet_nil ?_
  intro K0 hK0
  rw [if_pos (by rfl)]
  go_simp
  refine (point_c _ x2 y2 hx2 hy2).mono ?_
  rintro e1 w1 ⟨rfl, hw1⟩
  have hk1 : ∀ k, k < W2.heap.size → w1.heap[k]? = W2.heap[k]? := fun k hk => hw1.block k hk
  have hblA : Below w.heap.size w w1 := hbl2.trans ((Below.refl w.heap.size W2).drew.trans (hw1.mono hbl2.size))
  have ownA := own_of hown2 (w' := w1) fun k _ hk => hk1 k (by obtain ⟨_, _, hx⟩ := hk; exact blk_lt hx)
  have heA := (hk1 _ hlt2).trans he2
  have hdA := (hk1 _ (by omega)).trans hd2
  clear hw1 hk1 he2 hd2 hbl2 hown2 hlt2 q0 q1 q2 fe
  have S1 : w1.cell? ⟨w.heap.size + 1, 1, none⟩ = some (.slice (some ⟨g2, 0, none⟩) 2 c2) ∧ w1.cell? ⟨w.heap.size, 5, none⟩ = some (.int .i32 x2) ∧ w1.cell? ⟨w.heap.size, 6, none⟩ = some (.int .i32 y2) := ⟨by rw [blk_cell heA]; rfl, by rw [blk_cell hdA]; rfl, by rw [blk_cell hdA]; rfl⟩
  refine hK0 _ _ S1 fun K1 hK1 => ?_
  clear hK0 K0
  rw [if_pos (by rfl)]
  go_simp
  refine hK1 _ _ ⟨by rw [cell_past (blk_lt heA)]; exact S1.1, by rw [cell_past (blk_lt hdA)]; exact S1.2.1, by rw [cell_past (blk_lt hdA)]; exact S1.2.2⟩ fun K2 hK2 => ?_
  clear hK1 K1
  refine step_app_pt (base := w.heap.size) (vp := .slice (some ⟨g2, 0, none⟩) 2 c2) (m := 2) (m' := 3) (xs := [.int .i64 x0, .int .i64 y0, .int .i64 x1, .int .i64 y1]) (a := w1.heap.size) (px := x2) (py := y2) (own_of ownA fun k _ hk => blk_alloc _ (by obtain ⟨_, _, hx⟩ := hk; exact blk_lt hx)) (by have := hblA.size; simp; omega) (by decide) rfl (blk_new _ _) (by rfl) _ _ (by rfl) (by rfl) (by rfl) ?_
  intro g3 c3 w3 hownC hgr
  simp only [Act.put, List.setIfInBounds_toArray, List.set_cons_zero, List.set_cons_succ]
  have heC := (hgr.block _ (by have := blk_lt heA; simp; omega) (fun e => own_ne ownA (isTy.ne heA (by decide)) e.symm)).trans ((blk_alloc _ (blk_lt heA)).trans heA)
  have hdC := (hgr.block _ (by have := blk_lt hdA; simp; omega) (fun e => own_ne ownA (isTy.ne hdA (by decide)) e.symm)).trans ((blk_alloc _ (blk_lt hdA)).trans hdA)
  have hblC : Below w.heap.size w w3 := (hblA.alloc hblA.size _).grown hgr (by have := hblA.size; simp; omega) (fun k hk => (own_ty ownA hk).2)
  clear hgr ownA heA hdA hblA
  have S3 : w3.cell? ⟨w.heap.size + 1, 1, none⟩ = some (.slice (some ⟨g2, 0, none⟩) 2 c2) ∧ w3.cell? ⟨w.heap.size, 5, none⟩ = some (.int .i32 x2) ∧ w3.cell? ⟨w.heap.size, 6, none⟩ = some (.int .i32 y2) := ⟨by rw [blk_cell heC]; rfl, by rw [blk_cell hdC]; rfl, by rw [blk_cell hdC]; rfl⟩
  have fe3 := blk_free heC 1
  have s31 := S3.1
  refine hK2 _ _ S3 fun K3 hK3 => ?_
  clear hK2 K2
  rw [if_pos (by rfl)]
  go_simp
  refine hK3 _ _ S3 fun K4 hK4 => ?_
  clear hK3 K3
  rw [if_pos (by rfl)]
  go_simp
  refine hK4 _ _ ?_
  clear hK4 K4 S1 S3 s31 fe3
  have he3 : (w3.setCell ⟨w.heap.size + 1, 1, none⟩ (.slice (some ⟨g3, 0, none⟩) 3 c3)).heap[w.heap.size + 1]? = some (.cells #[.int .i64 3, .slice (some ⟨g3, 0, none⟩) 3 c3] 54 (0, 0)) := blk_set heC 1 _
  have hd3 : (w3.setCell ⟨w.heap.size + 1, 1, none⟩ (.slice (some ⟨g3, 0, none⟩) 3 c3)).heap[w.heap.size]? = some (.cells #[.int .u32 3, .int .i32 x0, .int .i32 y0, .int .i32 x1, .int .i32 y1, .int .i32 x2, .int .i32 y2] 112 (0, 0)) := (blk_set_ne 1 _ (by omega)).trans hdC
  have hown3 : (w3.setCell ⟨w.heap.size + 1, 1, none⟩ (.slice (some ⟨g3, 0, none⟩) 3 c3)).ownsRow w.heap.size 55 2 (.slice (some ⟨g3, 0, none⟩) 3 c3) 3 [.int .i64 x0, .int .i64 y0, .int .i64 x1, .int .i64 y1, .int .i64 x2, .int .i64 y2] := own_of hownC fun k _ hk => blk_set_ne 1 _ (ty_ne hk heC (by decide))
  have hbl3 : Below w.heap.size w (w3.setCell ⟨w.heap.size + 1, 1, none⟩ (.slice (some ⟨g3, 0, none⟩) 3 c3)) := hblC.setCell (by simp) _
  clear heC hdC hownC hblC
  generalize w3.setCell ⟨w.heap.size + 1, 1, none⟩ (.slice (some ⟨g3, 0, none⟩) 3 c3) = W3 at he3 hd3 hown3 hbl3 ⊢
  obtain ⟨hgb, hpb⟩ := PtBlk.of_own (pts := [(x0, y0), (x1, y1), (x2, y2)]) hown3 (by decide) rfl
  have he0 : W3.cell? ⟨w.heap.size + 1, 0, none⟩ = some (.int .i64 3) := by rw [blk_cell he3]; rfl
  have hec : W3.cell? ⟨w.heap.size + 1, 1, none⟩ = some (.slice (some ⟨g3, 0, none⟩) 3 c3) := by rw [blk_cell he3]; rfl
  have hov : Hid (W3.ownsRow B 54 2 vo i ys) := Lib.hid (own_of HV.out fun k _ hk => hbl3.block k (by obtain ⟨_, _, hx⟩ := hk; exact blk_lt hx))
  clear he3 hd3 hown3
  go_wp2_with fail
  rw [rounds_succ]
  obtain ⟨i0, hi0, hz0, hz1, hz2⟩ := info_parts info54
  go_wp2_with (at_builtin; go_loud (refine wpList_append_own _ rfl _ _ 27 rfl B 54 i0 _ 2 32 und27 hi0 hz0 hz1 hz2 rfl (by decide) vo i ys rfl (own_of hov.out fun k _ hk => blk_alloc _ (by obtain ⟨_, _, hx⟩ := hk; exact blk_lt hx)) ⟨W3.heap.size, 0, none⟩ 1 1 [.int .i64 3, .slice (some ⟨g3, 0, none⟩) 3 c3] rfl rfl ?_ ?_ (by unfold maxLen; omega) (by omega) (by have := hbl3.size; simp; omega) ?_))
  · intro j u hj
    rw [Addr.add_lit, Nat.zero_add, blk_cell (blk_new _ _)]
    simpa using hj
  · intro u hu
    simp only [List.mem_cons, List.mem_nil_iff, or_false] at hu
    rcases hu with rfl | rfl <;> rfl
  · intro v' w' hown' hgr' _
    have hs' : W3.heap.size ≤ w'.heap.size := Nat.le_trans (by simp) hgr'.size
    go_wp2_with fail
    refine HQ.out _ _ _ _ _ ⟨rfl, rfl, rfl, rfl, rfl⟩ hown' hgb ?_ (Nat.le_trans hbl3.size hs') (hgr'.os.trans hbl3.os) (hgr'.tape.trans hbl3.tape) (hgr'.output.trans hbl3.output) ?_
    · obtain ⟨cur, m, k1, k2⟩ := hpb
      exact ⟨cur, m, (hgr'.block _ (by have := blk_lt k1; simp; omega) (fun e => own_ne hov.out (isTy.ne k1 (by decide)) e.symm)).trans ((blk_alloc _ (blk_lt k1)).trans k1), k2⟩
    · intro k hk hne
      have hk2 : k < W3.heap.size := Nat.lt_of_lt_of_le hk hbl3.size
      exact (hgr'.block k (by simp; omega) hne).trans ((blk_alloc _ hk2).trans (hbl3.block k hk))
end
end Go.Proofs.YtoanpkfekhkaoaaGreatDoor
