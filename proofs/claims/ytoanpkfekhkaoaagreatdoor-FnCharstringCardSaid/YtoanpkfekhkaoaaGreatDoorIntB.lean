/-
  The contracts of closePath, lineTo and cubeTo. Conditions: the interpreter's state lies in memory.
-/
import Derived.Test.YtoanpkfekhkaoaaGreatDoorIntA
import Derived.Test.YtoanpkfekhkaoaaGreatDoorIntO
import Derived.Deep.QuietTactic
import Derived.BigQuiet
import Derived.Deep.RegionHeld3
import Derived.Deep.DrawnRows
import Derived.Deep.Cut
import Derived.StillTailTactics
namespace Go.Proofs.YtoanpkfekhkaoaaGreatDoor
open Go Go.RowKit

theorem info112 : (Tryz.prog.info? 112).map (fun i => (i.zero, i.size, i.bytes)) = some (some (.agg #[.int .u32 0, .int .i32 0, .int .i32 0, .int .i32 0, .int .i32 0, .int .i32 0, .int .i32 0]), 7, 28) := by kernel_rfl
theorem und45 : Tryz.prog.underlying 45 = some (.slice 112) := by kernel_rfl

theorem wpS_one {P : Program} {ops : Array Oper} {o : Oper} {rest : List Oper} {R : Act → Prop} {a : Act} {w : World} {v : Value} (hw : Region.wanted o (yielded ops a.tmps) = true)
    (hr : (execOp a.eval o).run P w = .ok (.value v) w) (h : wpStill P ops w R rest (a.put o.dst v)) : wpStill P ops w R (o :: rest) a := by
  unfold wpStill
  rw [if_pos hw]
  unfold Oper.still
  rw [hr]
  exact ⟨rfl, h⟩

section
variable {Bb lo : Nat} {ins : Value} {s : PS} {w : World}

/-- What a step of the interpreter leaves. -/
def PTo (Bb lo : Nat) (ins : Value) (s' : PS) (w : World) (v : Value) (e : Ending) (w' : World) : Prop :=
  e = .returned v ∧ PSt Bb lo ins s' w' ∧ PFrm Bb lo w w'

/-- In a drawn region: an append of a segment; the store back comes next. -/
theorem step_app_seg {sg : Seg} {a : Nat} {sv : Value} (hS : PSt Bb lo ins s w) (hvc : w.cell? ⟨Bb, 1, none⟩ = some sv) (hlen : s.segs.length ≤ 100000)
    (hab : w.heap[a]? = some (.cells (segC sg).toArray 112 (0, 0)))
    {ops : Array Oper} {o : Oper} {act : Act} {K : Act → World → Prop} {Q : Exit → Act → World → Prop} {E : Prop} (hg : o.guard = none) (x y : Operand)
    (hop : o.op = Op.call { callee := Callee.builtin Builtin.append, args := #[x, y], argTypes := #[45, 45] })
    (hx : act.eval x = sv) (hy : act.eval y = .slice (some ⟨a, 0, none⟩) 1 1)
    (hK : ∀ g' n' c' w1, PSt Bb lo ins { s with segs := s.segs ++ [sg] } (w1.setCell ⟨Bb, 1, none⟩ (.slice (some ⟨g', 0, none⟩) n' c')) →
      PFrm Bb lo w (w1.setCell ⟨Bb, 1, none⟩ (.slice (some ⟨g', 0, none⟩) n' c')) →
      w1.cell? ⟨Bb, 1, none⟩ = some sv → w1.frozen? ⟨Bb, 1, none⟩ = false → w1.heap[Bb]? = w.heap[Bb]? → K (act.put o.dst (.slice (some ⟨g', 0, none⟩) n' c')) w1) :
    if Region.wanted o (yielded ops act.tmps) = true then Oper.wp Tryz.prog o act w K Q else E := by
  rw [if_pos (by simp [Region.wanted, hg])]
  obtain ⟨i0, hi, hz0, hz1, hz2⟩ := info_parts info112
  have hS0 := hS
  obtain ⟨⟨cur, h1, hc, sv2, h3, h4⟩, hl⟩ := hS
  obtain rfl : sv2 = sv := by rw [blk_cell h1, h3] at hvc; exact Option.some.inj hvc
  have hlt := blk_lt h1
  refine wp_append_own w x y 45 hop lo 112 i0 _ 7 28 und45 hi hz0 hz1 hz2 rfl (by decide) sv2 _ _ hx h4 ⟨a, 0, none⟩ 1 1 (segC sg) hy rfl ?_ ?_ (by unfold maxLen; omega) (by omega) (by omega) ?_
  · intro j u hj
    rw [Addr.add_lit, Nat.zero_add, blk_cell hab]
    simpa using hj
  · intro u hu
    simp only [segC, List.mem_cons, List.mem_nil_iff, or_false] at hu
    rcases hu with rfl | rfl | rfl | rfl | rfl | rfl | rfl <;> rfl
  · intro v' w1 hown hgrow _
    obtain ⟨k1, k2⟩ := hS0.setSegs (sg := sg) hvc hgrow hown
    have hB : w1.heap[Bb]? = w.heap[Bb]? := hgrow.block _ hlt fun e => own_ne h4 (isTy.ne h1 (by decide)) e.symm
    rcases hown.2 with ⟨_, hh⟩ | ⟨g', cap, cur', rfl, _⟩
    · omega
    · exact hK _ _ _ w1 k1 k2 (by rw [World.cell?_of_block (w := w) hB]; exact hvc) (by rw [World.frozen?_of_block (w := w) hB]; exact hS0.free 1) hB

/-- The six cells that the segment's region reads. -/
def RC (Bb : Nat) (s : PS) (sv : Value) (w : World) : Prop :=
  w.cell? ⟨Bb, 660, none⟩ = some (.pointer (some ⟨Bb, 0, none⟩)) ∧ w.cell? ⟨Bb, 1, none⟩ = some sv ∧ w.cell? ⟨Bb, 661, none⟩ = some (.int .i32 s.x) ∧ w.cell? ⟨Bb, 662, none⟩ = some (.int .i32 s.y) ∧
    w.cell? ⟨Bb, 663, none⟩ = some (.int .i32 s.fx) ∧ w.cell? ⟨Bb, 664, none⟩ = some (.int .i32 s.fy)
theorem RC.of (hS : PSt Bb lo ins s w) {sv : Value} (hv : w.cell? ⟨Bb, 1, none⟩ = some sv) {w' : World} (e : w'.heap[Bb]? = w.heap[Bb]?) : RC Bb s sv w' := by
  obtain ⟨-, -, -, -, h0, h1, h2, h3, h4, -, -⟩ := hS.cell
  have k : ∀ o, w'.cell? ⟨Bb, o, none⟩ = w.cell? ⟨Bb, o, none⟩ := fun o => World.cell?_of_block e
  exact ⟨by rw [k]; exact h0, by rw [k]; exact hv, by rw [k]; exact h1, by rw [k]; exact h2, by rw [k]; exact h3, by rw [k]; exact h4⟩

attribute [local go_sem ↓] Go.wp_at_zero Go.wp_at_succ
set_option maxRecDepth 100000 in
theorem lineTo_st (hS : PSt Bb lo ins s w) (dx dy : Int) (hx : -1000000 ≤ s.x ∧ s.x ≤ 1000000) (hy : -1000000 ≤ s.y ∧ s.y ≤ 1000000) (hdx : -1000 ≤ dx ∧ dx ≤ 1000) (hdy : -1000 ≤ dy ∧ dy ≤ 1000) (hlen : s.segs.length ≤ 100000) :
    Calls Tryz.prog 58 #[.pointer (some ⟨Bb, 659, none⟩), .int .i32 dx, .int .i32 dy] w
      (PTo Bb lo ins { s with x := s.x + dx, y := s.y + dy, segs := s.segs ++ [⟨1, [(s.x + dx, s.y + dy)]⟩] } w (.tuple #[])) := by
  obtain ⟨-, -, -, -, h660, h661, h662, -, -, -, -⟩ := hS.cell
  have f661 := hS.free 661
  have f662 := hS.free 662
  have f1 := hS.free 1
  have hlt := hS.lt
  have HLEN := Lib.hid hlen
  obtain ⟨hx1, hx2⟩ := hx
  obtain ⟨hy1, hy2⟩ := hy
  have hS1 := (hS.setX (s.x + dx)).setY (s.y + dy)
  have hF1 := (PFrm.set Bb lo w 661 (.int .i32 (s.x + dx))).trans (PFrm.set Bb lo _ 662 (.int .i32 (s.y + dy)))
  clear hlen
  go_enter Tryz.func58, Tryz.ntmps58
  go_wp2_with fail
  generalize hW : (w.setCell ⟨Bb, 661, none⟩ (.int .i32 (s.x + dx))).setCell ⟨Bb, 662, none⟩ (.int .i32 (s.y + dy)) = W at hS1 hF1 ⊢
  clear hW h660 h661 h662 f661 f662 f1
  obtain ⟨sv, e3⟩ := PSt.sv hS1
  have hlt' := PSt.lt hS1
  have hsd := RC.of hS1 e3 (w' := World.drew W) rfl
  refine wp_region_27 (S := RC Bb { s with x := s.x + dx, y := s.y + dy } sv) (by kernel_rfl) (by kernel_rfl) (by kernel_rfl) (by kernel_rfl) (by kernel_rfl) (by kernel_rfl) (by kernel_rfl) (by kernel_rfl) (by kernel_rfl) (fun _ _ d _ _ h => (by cases d <;> exact h)) hsd ?_
  iterate 22 (refine' wpQ_one (by rfl) ?_ ?_; rotate_left; (focus (intro w' hw; obtain ⟨c0, c1, c2, c3, c4, c5⟩ := hw; go_simp; with_reducible rfl)); simp only [Act.put, List.setIfInBounds_toArray, List.set_cons_zero, List.set_cons_succ])
  refine wpQuiet_nil ?_
  intro K0 hK0
  rw [if_pos (by rfl)]
  go_simp
  refine hK0 _ _ (RC.of hS1 e3 (blk_alloc _ hlt')) fun K1 hK1 => ?_
  refine step_app_seg (sg := ⟨1, [(s.x + dx, s.y + dy)]⟩) (sv := sv) (a := (W).heap.size) ((hS1).alloc _).drew (by rw [World.cell?_drew, cell_past hlt']; exact e3) (HLEN).out (by exact blk_at _ _ rfl) (by rfl) _ _ (by rfl) (by rfl) (by rfl) ?_
  intro g' n' c' w1 hS2 hF2 hc2 hf2 hB2
  simp only [Act.put, List.setIfInBounds_toArray, List.set_cons_zero, List.set_cons_succ]
  have krc := RC.of hS1 e3 (hB2.trans (blk_alloc _ hlt'))
  have hF3 := (PFrm.alloc Bb lo W _).trans ((PFrm.drew Bb lo _).trans hF2)
  refine hK1 _ _ krc fun K2 hK2 => ?_
  rw [if_pos (by rfl)]
  go_simp
  refine hK2 _ _ krc fun K3 hK3 => ?_
  rw [if_pos (by rfl)]
  go_simp
  refine hK3 _ _ krc fun K4 hK4 => ?_
  rw [if_pos (by rfl)]
  go_simp
  refine hK4 _ _ ?_
  clear hK4 K4 hK3 K3 hK2 K2 hK1 K1 hK0 K0 hc2 hf2
  go_end0
  exact ⟨rfl, hS2, hF1.trans hF3⟩

set_option maxRecDepth 100000 in
set_option maxHeartbeats 1000000 in
theorem cubeTo_st (hS : PSt Bb lo ins s w) (ax ay bx b_y cx cy : Int) (hx : -1000000 ≤ s.x ∧ s.x ≤ 1000000) (hy : -1000000 ≤ s.y ∧ s.y ≤ 1000000) (h1 : -1000 ≤ ax ∧ ax ≤ 1000) (h2 : -1000 ≤ ay ∧ ay ≤ 1000)
    (h3 : -1000 ≤ bx ∧ bx ≤ 1000) (h4 : -1000 ≤ b_y ∧ b_y ≤ 1000) (h5 : -1000 ≤ cx ∧ cx ≤ 1000) (h6 : -1000 ≤ cy ∧ cy ≤ 1000) (hlen : s.segs.length ≤ 100000) :
    Calls Tryz.prog 60 #[.pointer (some ⟨Bb, 659, none⟩), .int .i32 ax, .int .i32 ay, .int .i32 bx, .int .i32 b_y, .int .i32 cx, .int .i32 cy] w
      (PTo Bb lo ins { s with x := s.x + ax + bx + cx, y := s.y + ay + b_y + cy, segs := s.segs ++ [⟨3, [(s.x + ax, s.y + ay), (s.x + ax + bx, s.y + ay + b_y), (s.x + ax + bx + cx, s.y + ay + b_y + cy)]⟩] } w (.tuple #[])) := by
  obtain ⟨-, -, -, -, h660, h661, h662, -, -, -, -⟩ := hS.cell
  have f661 := hS.free 661
  have f662 := hS.free 662
  have f1 := hS.free 1
  have hlt := hS.lt
  have HLEN := Lib.hid hlen
  obtain ⟨hx1, hx2⟩ := hx
  obtain ⟨hy1, hy2⟩ := hy
  have hS1 := (hS.setX (s.x + ax)).setY (s.y + ay)
  have hF1 := (PFrm.set Bb lo w 661 (.int .i32 (s.x + ax))).trans (PFrm.set Bb lo _ 662 (.int .i32 (s.y + ay)))
  clear hlen
  go_enter Tryz.func60, Tryz.ntmps60
  go_upto_region 2 with (fail)
  generalize hW : (w.setCell ⟨Bb, 661, none⟩ (.int .i32 (s.x + ax))).setCell ⟨Bb, 662, none⟩ (.int .i32 (s.y + ay)) = W at hS1 hF1 ⊢
  clear hW h660 h661 h662 f661 f662 f1 hlt
  obtain ⟨-, -, -, -, h660, h661, h662, -, -, -, -⟩ := hS1.cell
  have f661 := hS1.free 661
  have f662 := hS1.free 662
  have hlt := hS1.lt
  have hS2 := (hS1.setX (s.x + ax + bx)).setY (s.y + ay + b_y)
  have hF2 := (PFrm.set Bb lo W 661 (.int .i32 (s.x + ax + bx))).trans (PFrm.set Bb lo _ 662 (.int .i32 (s.y + ay + b_y)))
  simp only at h661 h662 hS2
  go_upto_region 6 with (fail)
  generalize hW : (W.setCell ⟨Bb, 661, none⟩ (.int .i32 (s.x + ax + bx))).setCell ⟨Bb, 662, none⟩ (.int .i32 (s.y + ay + b_y)) = W2 at hS2 hF2 ⊢
  clear hW h660 h661 h662 f661 f662 hlt hS1
  obtain ⟨-, -, -, -, h660, h661, h662, -, -, -, -⟩ := hS2.cell
  have f661 := hS2.free 661
  have f662 := hS2.free 662
  have hlt := hS2.lt
  have hS3 := (hS2.setX (s.x + ax + bx + cx)).setY (s.y + ay + b_y + cy)
  have hF3 := (PFrm.set Bb lo W2 661 (.int .i32 (s.x + ax + bx + cx))).trans (PFrm.set Bb lo _ 662 (.int .i32 (s.y + ay + b_y + cy)))
  simp only at h661 h662 hS3
  go_upto_region 10 with (fail)
  generalize hW : (W2.setCell ⟨Bb, 661, none⟩ (.int .i32 (s.x + ax + bx + cx))).setCell ⟨Bb, 662, none⟩ (.int .i32 (s.y + ay + b_y + cy)) = W3 at hS3 hF3 ⊢
  clear hW h660 h661 h662 f661 f662 hlt hS2
  obtain ⟨-, -, -, -, h660, h661, h662, -, -, -, -⟩ := hS3.cell
  simp only at h661 h662
  go_wp2_with fail
  have hF0 := hF1.trans (hF2.trans hF3)
  clear h660 h661 h662 hF1 hF2 hF3
  obtain ⟨sv, e3⟩ := PSt.sv hS3
  have hlt' := PSt.lt hS3
  have hsd := RC.of hS3 e3 (w' := World.drew W3) rfl
  refine wp_region_27 (S := RC Bb { s with x := s.x + ax + bx + cx, y := s.y + ay + b_y + cy } sv) (by kernel_rfl) (by kernel_rfl) (by kernel_rfl) (by kernel_rfl) (by kernel_rfl) (by kernel_rfl) (by kernel_rfl) (by kernel_rfl) (by kernel_rfl) (fun _ _ d _ _ h => (by cases d <;> exact h)) hsd ?_
  iterate 22 (refine' wpQ_one (by rfl) ?_ ?_; rotate_left; (focus (intro w' hw; obtain ⟨c0, c1, c2, c3, c4, c5⟩ := hw; go_simp; with_reducible rfl)); simp only [Act.put, List.setIfInBounds_toArray, List.set_cons_zero, List.set_cons_succ])
  refine wpQuiet_nil ?_
  intro K0 hK0
  rw [if_pos (by rfl)]
  go_simp
  refine hK0 _ _ (RC.of hS3 e3 (blk_alloc _ hlt')) fun K1 hK1 => ?_
  refine step_app_seg (sg := ⟨3, [(s.x + ax, s.y + ay), (s.x + ax + bx, s.y + ay + b_y), (s.x + ax + bx + cx, s.y + ay + b_y + cy)]⟩) (sv := sv) (a := (W3).heap.size) ((hS3).alloc _).drew (by rw [World.cell?_drew, cell_past hlt']; exact e3) (HLEN).out (by exact blk_at _ _ rfl) (by rfl) _ _ (by rfl) (by rfl) (by rfl) ?_
  intro g' n' c' w1 hS2 hF2 hc2 hf2 hB2
  simp only [Act.put, List.setIfInBounds_toArray, List.set_cons_zero, List.set_cons_succ]
  have krc := RC.of hS3 e3 (hB2.trans (blk_alloc _ hlt'))
  have hF3 := (PFrm.alloc Bb lo W3 _).trans ((PFrm.drew Bb lo _).trans hF2)
  refine hK1 _ _ krc fun K2 hK2 => ?_
  rw [if_pos (by rfl)]
  go_simp
  refine hK2 _ _ krc fun K3 hK3 => ?_
  rw [if_pos (by rfl)]
  go_simp
  refine hK3 _ _ krc fun K4 hK4 => ?_
  rw [if_pos (by rfl)]
  go_simp
  refine hK4 _ _ ?_
  clear hK4 K4 hK3 K3 hK2 K2 hK1 K1 hK0 K0 hc2 hf2
  go_end0
  exact ⟨rfl, hS2, hF0.trans hF3⟩

set_option maxRecDepth 100000 in
theorem closePath_st (hS : PSt Bb lo ins s w) (hlen : s.segs.length ≤ 100000) :
    Calls Tryz.prog 65 #[.pointer (some ⟨Bb, 659, none⟩)] w
      (PTo Bb lo ins { s with segs := if s.x ≠ s.fx ∨ s.y ≠ s.fy then s.segs ++ [⟨1, [(s.fx, s.fy)]⟩] else s.segs } w (.tuple #[])) := by
  obtain ⟨-, -, -, -, h660, h661, h662, h663, h664, -, -⟩ := hS.cell
  have f1 := hS.free 1
  have hlt := hS.lt
  have HLEN := Lib.hid hlen
  clear hlen
  by_cases e1 : s.x = s.fx
  · by_cases e2 : s.y = s.fy
    · rw [if_neg (by rintro (h | h) <;> contradiction)]
      rw [e1] at h661
      rw [e2] at h662
      go_enter Tryz.func65, Tryz.ntmps65
      go_wp2_with (go_quiet (fail))
      go_end0
      exact ⟨rfl, hS.drewN nq, PFrm.drewN _ _ _ nq⟩
    · rw [if_pos (.inr e2)]
      rw [e1] at h661
      go_enter Tryz.func65, Tryz.ntmps65
      go_wp2_with (go_quiet (fail))
      clear h660 h661 h662 h663 h664 f1
      generalize hW : w.drewN nq = W
      have hSq : PSt Bb lo ins s W := hW ▸ hS.drewN nq
      have hFq : PFrm Bb lo w W := hW ▸ PFrm.drewN _ _ _ nq
      clear hW
      obtain ⟨sv, e3⟩ := PSt.sv hSq
      have hlt' := PSt.lt hSq
      have hsd := RC.of hSq e3 (w' := World.drew W) rfl
      refine wp_region_27 (S := RC Bb s sv) (by kernel_rfl) (by kernel_rfl) (by kernel_rfl) (by kernel_rfl) (by kernel_rfl) (by kernel_rfl) (by kernel_rfl) (by kernel_rfl) (by kernel_rfl) (fun _ _ d _ _ h => (by cases d <;> exact h)) hsd ?_
      iterate 22 (refine' wpQ_one (by rfl) ?_ ?_; rotate_left; (focus (intro w' hw; obtain ⟨c0, c1, c2, c3, c4, c5⟩ := hw; go_simp; with_reducible rfl)); simp only [Act.put, List.setIfInBounds_toArray, List.set_cons_zero, List.set_cons_succ])
      refine wpQuiet_nil ?_
      intro K0 hK0
      rw [if_pos (by rfl)]
      go_simp
      refine hK0 _ _ (RC.of hSq e3 (blk_alloc _ hlt')) fun K1 hK1 => ?_
      refine step_app_seg (sg := ⟨1, [(s.fx, s.fy)]⟩) (sv := sv) (a := (W).heap.size) ((hSq).alloc _).drew (by rw [World.cell?_drew, cell_past hlt']; exact e3) (HLEN).out (by exact blk_at _ _ rfl) (by rfl) _ _ (by rfl) (by rfl) (by rfl) ?_
      intro g' n' c' w1 hS2 hF2 hc2 hf2 hB2
      simp only [Act.put, List.setIfInBounds_toArray, List.set_cons_zero, List.set_cons_succ]
      have krc := RC.of hSq e3 (hB2.trans (blk_alloc _ hlt'))
      have hF3 := (PFrm.alloc Bb lo W _).trans ((PFrm.drew Bb lo _).trans hF2)
      refine hK1 _ _ krc fun K2 hK2 => ?_
      rw [if_pos (by rfl)]
      go_simp
      refine hK2 _ _ krc fun K3 hK3 => ?_
      rw [if_pos (by rfl)]
      go_simp
      refine hK3 _ _ krc fun K4 hK4 => ?_
      rw [if_pos (by rfl)]
      go_simp
      refine hK4 _ _ ?_
      clear hK4 K4 hK3 K3 hK2 K2 hK1 K1 hK0 K0 hc2 hf2
      go_end0
      exact ⟨rfl, hS2, hFq.trans hF3⟩
  · rw [if_pos (.inl e1)]
    go_enter Tryz.func65, Tryz.ntmps65
    go_wp2_with (go_quiet (fail))
    clear h660 h661 h662 h663 h664 f1
    generalize hW : w.drewN nq = W
    have hSq : PSt Bb lo ins s W := hW ▸ hS.drewN nq
    have hFq : PFrm Bb lo w W := hW ▸ PFrm.drewN _ _ _ nq
    clear hW
    obtain ⟨sv, e3⟩ := PSt.sv hSq
    have hlt' := PSt.lt hSq
    have hsd := RC.of hSq e3 (w' := World.drew W) rfl
    refine wp_region_27 (S := RC Bb s sv) (by kernel_rfl) (by kernel_rfl) (by kernel_rfl) (by kernel_rfl) (by kernel_rfl) (by kernel_rfl) (by kernel_rfl) (by kernel_rfl) (by kernel_rfl) (fun _ _ d _ _ h => (by cases d <;> exact h)) hsd ?_
    iterate 22 (refine' wpQ_one (by rfl) ?_ ?_; rotate_left; (focus (intro w' hw; obtain ⟨c0, c1, c2, c3, c4, c5⟩ := hw; go_simp; with_reducible rfl)); simp only [Act.put, List.setIfInBounds_toArray, List.set_cons_zero, List.set_cons_succ])
    refine wpQuiet_nil ?_
    intro K0 hK0
    rw [if_pos (by rfl)]
    go_simp
    refine hK0 _ _ (RC.of hSq e3 (blk_alloc _ hlt')) fun K1 hK1 => ?_
    refine step_app_seg (sg := ⟨1, [(s.fx, s.fy)]⟩) (sv := sv) (a := (W).heap.size) ((hSq).alloc _).drew (by rw [World.cell?_drew, cell_past hlt']; exact e3) (HLEN).out (by exact blk_at _ _ rfl) (by rfl) _ _ (by rfl) (by rfl) (by rfl) ?_
    intro g' n' c' w1 hS2 hF2 hc2 hf2 hB2
    simp only [Act.put, List.setIfInBounds_toArray, List.set_cons_zero, List.set_cons_succ]
    have krc := RC.of hSq e3 (hB2.trans (blk_alloc _ hlt'))
    have hF3 := (PFrm.alloc Bb lo W _).trans ((PFrm.drew Bb lo _).trans hF2)
    refine hK1 _ _ krc fun K2 hK2 => ?_
    rw [if_pos (by rfl)]
    go_simp
    refine hK2 _ _ krc fun K3 hK3 => ?_
    rw [if_pos (by rfl)]
    go_simp
    refine hK3 _ _ krc fun K4 hK4 => ?_
    rw [if_pos (by rfl)]
    go_simp
    refine hK4 _ _ ?_
    clear hK4 K4 hK3 K3 hK2 K2 hK1 K1 hK0 K0 hc2 hf2
    go_end0
    exact ⟨rfl, hS2, hFq.trans hF3⟩
end
end Go.Proofs.YtoanpkfekhkaoaaGreatDoor
