/-
  The contracts of moveTo and of the reading of the width. Conditions: the interpreter's state lies in memory.
-/
import Derived.Test.YtoanpkfekhkaoaaGreatDoorIntB
import Derived.StillTailTactics
import Derived.Laws.IdiomCopy
namespace Go.Proofs.YtoanpkfekhkaoaaGreatDoor
open Go Go.RowKit

def clP (s : PS) : PS := { s with segs := if s.x ≠ s.fx ∨ s.y ≠ s.fy then s.segs ++ [⟨1, [(s.fx, s.fy)]⟩] else s.segs }
def mvP (dx dy : Int) (s : PS) : PS := { s with x := s.x + dx, y := s.y + dy, fx := s.x + dx, fy := s.y + dy, segs := (clP s).segs ++ [⟨0, [(s.x + dx, s.y + dy)]⟩] }
def lnP (dx dy : Int) (s : PS) : PS := { s with x := s.x + dx, y := s.y + dy, segs := s.segs ++ [⟨1, [(s.x + dx, s.y + dy)]⟩] }
def cvP (ax ay bx b_y cx cy : Int) (s : PS) : PS :=
  { s with x := s.x + ax + bx + cx, y := s.y + ay + b_y + cy, segs := s.segs ++ [⟨3, [(s.x + ax, s.y + ay), (s.x + ax + bx, s.y + ay + b_y), (s.x + ax + bx + cx, s.y + ay + b_y + cy)]⟩] }
theorem clP_len (s : PS) : (clP s).segs.length ≤ s.segs.length + 1 := by unfold clP; dsimp only; split <;> simp

/-! ### Cells set in a row -/
theorem blk_setCells {b t : Nat} {m : Nat × Nat} : ∀ (vs : List Value) (o : Nat) (w : World) (cur : Array Value), w.heap[b]? = some (.cells cur t m) → o + vs.length ≤ cur.size →
    ∃ cur', (w.setCells b o vs).heap[b]? = some (.cells cur' t m) ∧ cur'.size = cur.size ∧ (∀ j, j < o ∨ o + vs.length ≤ j → cur'[j]? = cur[j]?) ∧ ∀ i v, vs[i]? = some v → cur'[o + i]? = some v
  | [], o, w, cur, h, _ => ⟨cur, h, rfl, fun _ _ => rfl, fun i v hv => by simp at hv⟩
  | u :: r, o, w, cur, h, hl => by
    simp only [List.length_cons] at hl
    obtain ⟨cur', h1, h2, h3, h4⟩ := blk_setCells r (o + 1) (w.setCell ⟨b, o, none⟩ u) (cur.setIfInBounds o u) (blk_set h o u) (by simp; omega)
    refine ⟨cur', h1, by rw [h2]; simp, fun j hj => ?_, fun i v hv => ?_⟩
    · simp only [List.length_cons] at hj
      rw [h3 j (by omega), Array.getElem?_setIfInBounds_ne (by omega)]
    · match i, hv with
      | 0, hv =>
        rw [h3 (o + 0) (by omega)]
        simp only [List.getElem?_cons_zero, Option.some.injEq] at hv
        subst hv
        simp only [Nat.add_zero]
        rw [Array.getElem?_setIfInBounds_self_of_lt (by omega)]
      | i + 1, hv =>
        have := h4 i v (by simpa using hv)
        rwa [show o + 1 + i = o + (i + 1) by omega] at this
theorem setCells_ne {b : Nat} : ∀ (vs : List Value) (o : Nat) (w : World), (w.setCells b o vs).os = w.os ∧ (w.setCells b o vs).tape = w.tape ∧ (w.setCells b o vs).output = w.output ∧ (w.setCells b o vs).heap.size = w.heap.size ∧ ∀ k, k ≠ b → (w.setCells b o vs).heap[k]? = w.heap[k]?
  | [], _, _ => ⟨rfl, rfl, rfl, rfl, fun _ _ => rfl⟩
  | v :: r, o, w => by
    obtain ⟨h1, h2, h3, h4, h5⟩ := setCells_ne r (o + 1) (w.setCell ⟨b, o, none⟩ v)
    exact ⟨h1, h2, h3, h4.trans (by simp), fun k hk => (h5 k hk).trans (blk_set_ne o v hk)⟩

section
variable {Bb lo : Nat} {ins : Value} {s : PS} {w : World}

/-- The lowest value leaves the stack. -/
theorem PSt.slide {v : Int} {r : List Int} (hs : s.stk = v :: r) (h : PSt Bb lo ins s w) :
    PSt Bb lo ins { s with stk := r } ((w.setCells Bb 518 (r.map (.int .i32))).setCell ⟨Bb, 566, none⟩ (.int .i32 r.length)) ∧ PFrm Bb lo w ((w.setCells Bb 518 (r.map (.int .i32))).setCell ⟨Bb, 566, none⟩ (.int .i32 r.length)) := by
  have hlim := h.lim
  obtain ⟨⟨cur, h1, hc, sv, h3, h4⟩, hl⟩ := h
  rw [hs] at hlim
  simp only [List.length_cons] at hlim
  have hsz := hc.size
  obtain ⟨cur', k1, k2, k3, k4⟩ := blk_setCells (r.map (Value.int .i32)) 518 w cur h1 (by simp; omega)
  obtain ⟨n1, n2, n3, n4, n5⟩ := setCells_ne (b := Bb) (r.map (Value.int .i32)) 518 w
  have e : ∀ j, j ≠ 566 → (j < 518 ∨ 566 < j) → (cur'.setIfInBounds 566 (.int .i32 r.length))[j]? = cur[j]? := fun j hj hj2 => by
    rw [Array.getElem?_setIfInBounds_ne (Ne.symm hj)]
    exact k3 j (by simp; omega)
  refine ⟨⟨⟨_, blk_set k1 566 _, ?_, sv, ?_, ?_⟩, hl⟩, ⟨n1, n2, n3, by simp [n4], fun k hk hb _ => (blk_set_ne _ _ hb).trans (n5 k hb)⟩⟩
  · exact ⟨by simp [k2, hsz], by rw [e _ (by decide) (by decide)]; exact hc.ctx, by rw [e _ (by decide) (by decide)]; exact hc.ins, by rw [Array.getElem?_setIfInBounds_self_of_lt (by omega)],
      fun i u hu => by
        have hi : i < r.length := (List.getElem?_eq_some_iff.1 hu).1
        rw [Array.getElem?_setIfInBounds_ne (by omega)]
        refine k4 i _ ?_
        rw [List.getElem?_map]
        simp only at hu
        rw [hu]
        rfl,
      by rw [e _ (by decide) (by decide)]; exact hc.ctop, by rw [e _ (by decide) (by decide)]; exact hc.bptr, by rw [e _ (by decide) (by decide)]; exact hc.x, by rw [e _ (by decide) (by decide)]; exact hc.y,
      by rw [e _ (by decide) (by decide)]; exact hc.fx, by rw [e _ (by decide) (by decide)]; exact hc.fy, by rw [e _ (by decide) (by decide)]; exact hc.seen, by rw [e _ (by decide) (by decide)]; exact hc.ended, by simp only; omega⟩
  · rw [e _ (by decide) (by decide)]; exact h3
  · exact own_of h4 fun k _ hk => (blk_set_ne _ _ (ty_ne hk h1 (by decide))).trans (n5 k (ty_ne hk h1 (by decide)))

attribute [local go_sem ↓] Go.wp_at_zero Go.wp_at_succ
set_option maxRecDepth 100000 in
set_option maxHeartbeats 1000000 in
theorem moveTo_st (hS : PSt Bb lo ins s w) (dx dy : Int) (hx : -1000000 ≤ s.x ∧ s.x ≤ 1000000) (hy : -1000000 ≤ s.y ∧ s.y ≤ 1000000) (hdx : -1000 ≤ dx ∧ dx ≤ 1000) (hdy : -1000 ≤ dy ∧ dy ≤ 1000) (hlen : s.segs.length ≤ 90000) :
    Calls Tryz.prog 57 #[.pointer (some ⟨Bb, 659, none⟩), .int .i32 dx, .int .i32 dy] w (PTo Bb lo ins (mvP dx dy s) w (.tuple #[])) := by
  have HLEN := Lib.hid (show (clP s).segs.length ≤ 100000 from by have := clP_len s; omega)
  have HL0 := Lib.hid (show s.segs.length ≤ 100000 from by omega)
  obtain ⟨hx1, hx2⟩ := hx
  obtain ⟨hy1, hy2⟩ := hy
  clear hlen
  go_enter Tryz.func57, Tryz.ntmps57
  go_wp2_with fail
  refine (closePath_st hS HL0.out).mono ?_
  rintro e w9 ⟨rfl, hS0, hF0⟩
  have hS0 : PSt Bb lo ins (clP s) w9 := hS0
  obtain ⟨-, -, -, -, h660, h661, h662, -, -, -, -⟩ := hS0.cell
  change w9.cell? ⟨Bb, 661, none⟩ = some (.int .i32 s.x) at h661
  change w9.cell? ⟨Bb, 662, none⟩ = some (.int .i32 s.y) at h662
  have f661 := hS0.free 661
  have f662 := hS0.free 662
  have hlt := hS0.lt
  have hS1 := (hS0.setX (s.x + dx)).setY (s.y + dy)
  have hF1 := (PFrm.set Bb lo w9 661 (.int .i32 (s.x + dx))).trans (PFrm.set Bb lo _ 662 (.int .i32 (s.y + dy)))
  go_upto_region 3 with (fail)
  generalize hW : (w9.setCell ⟨Bb, 661, none⟩ (.int .i32 (s.x + dx))).setCell ⟨Bb, 662, none⟩ (.int .i32 (s.y + dy)) = W at hS1 hF1 ⊢
  clear hW h660 h661 h662 f661 f662 hlt hS0
  obtain ⟨sv, e3⟩ := PSt.sv hS1
  have hlt' := PSt.lt hS1
  have hsd := RC.of hS1 e3 (w' := World.drew W) rfl
  refine wp_region_27 (S := RC Bb { clP s with x := s.x + dx, y := s.y + dy } sv) (by kernel_rfl) (by kernel_rfl) (by kernel_rfl) (by kernel_rfl) (by kernel_rfl) (by kernel_rfl) (by kernel_rfl) (by kernel_rfl) (by kernel_rfl) (fun _ _ d _ _ h => (by cases d <;> exact h)) hsd ?_
  iterate 22 (refine' wpQ_one (by rfl) ?_ ?_; rotate_left; (focus (intro w' hw; obtain ⟨c0, c1, c2, c3, c4, c5⟩ := hw; go_simp; with_reducible rfl)); simp only [Act.put, List.setIfInBounds_toArray, List.set_cons_zero, List.set_cons_succ])
  refine wpQuiet_nil ?_
  intro K0 hK0
  rw [if_pos (by rfl)]
  go_simp
  refine hK0 _ _ (RC.of hS1 e3 (blk_alloc _ hlt')) fun K1 hK1 => ?_
  refine step_app_seg (sg := ⟨0, [(s.x + dx, s.y + dy)]⟩) (sv := sv) (a := (W).heap.size) ((hS1).alloc _).drew (by rw [World.cell?_drew, cell_past hlt']; exact e3) (HLEN).out (by exact blk_at _ _ rfl) (by rfl) _ _ (by rfl) (by rfl) (by rfl) ?_
  intro g' n' c' w1 hS2 hF2 hc2 hf2 hB2
  simp only [Act.put, List.setIfInBounds_toArray, List.set_cons_zero, List.set_cons_succ]
  have krc := RC.of hS1 e3 (hB2.trans (blk_alloc _ hlt'))
  have hF3 := (PFrm.alloc Bb lo W _).trans ((PFrm.drew Bb lo _).trans hF2)
  refine hK1 _ _ krc fun K2 hK2 => ?_
  rw [if_pos (by rfl)]
  go_simp
  refine hK2 _ _ krc fun K3 hK3 => ?_
  rw [if_pos (by rfl)]
  go_simp
  refine hK3 _ _ krc fun K4 hK4 => ?_
  rw [if_pos (by rfl)]
  go_simp
  refine hK4 _ _ ?_
  clear hK4 K4 hK3 K3 hK2 K2 hK1 K1 hK0 K0 hc2 hf2
  generalize hW : w1.setCell ⟨Bb, 1, none⟩ (.slice (some ⟨g', 0, none⟩) n' c') = W2 at hS2 hF2 hF3 ⊢
  clear hW hS1 krc hsd e3 hB2 hF2
  obtain ⟨-, -, -, -, -, h661, h662, -, -, -, -⟩ := hS2.cell
  change W2.cell? ⟨Bb, 661, none⟩ = some (.int .i32 (s.x + dx)) at h661
  change W2.cell? ⟨Bb, 662, none⟩ = some (.int .i32 (s.y + dy)) at h662
  have f663 := hS2.free 663
  have f664 := hS2.free 664
  obtain ⟨v663, h663⟩ := hS2.any (o := 663) (by decide)
  obtain ⟨v664, h664⟩ := hS2.any (o := 664) (by decide)
  have hS5 := (hS2.setFx (s.x + dx)).setFy (s.y + dy)
  have hF5 := (PFrm.set Bb lo W2 663 (.int .i32 (s.x + dx))).trans (PFrm.set Bb lo _ 664 (.int .i32 (s.y + dy)))
  clear hS2
  go_wp2_with fail
  go_end0
  exact ⟨rfl, hS5, hF0.trans (hF1.trans (hF3.trans hF5))⟩

/-- What reading the width does. -/
def rwP (n : Nat) (s : PS) : PS := if s.seen = true then s else if s.stk.length = n + 1 then { s with seen := true, stk := s.stk.tail } else { s with seen := true }
set_option maxRecDepth 100000 in
theorem rw_seen (hS : PSt Bb lo ins s w) (h : s.seen = true) (n : Int) : Calls Tryz.prog 56 #[.pointer (some ⟨Bb, 514, none⟩), .int .i32 n] w (PTo Bb lo ins s w (.tuple #[])) := by
  have h666 := hS.cell.2.2.2.2.2.2.2.2.2.1
  rw [h] at h666
  go_enter Tryz.func56, Tryz.ntmps56
  go_wp2_with fail
  go_end0
  exact ⟨rfl, hS, PFrm.refl _ _ _⟩
set_option maxRecDepth 100000 in
theorem rw_none (hS : PSt Bb lo ins s w) (h : s.seen = false) (n : Nat) (hn : n ≤ 2) (h2 : s.stk.length = n) :
    Calls Tryz.prog 56 #[.pointer (some ⟨Bb, 514, none⟩), .int .i32 n] w (PTo Bb lo ins { s with seen := true } w (.tuple #[])) := by
  obtain ⟨-, -, h566, -, -, -, -, -, -, h666, -⟩ := hS.cell
  rw [h] at h666
  rw [h2] at h566
  have f666 := hS.free 666
  have hS1 := hS.setSeen true
  have hF1 := PFrm.set Bb lo w 666 (.bool true)
  have hne : ((n : Int) ≠ n + 1) := by omega
  match n, hn with
  | 0, _ | 1, _ | 2, _ =>
    go_enter Tryz.func56, Tryz.ntmps56
    go_wp2_with fail
    go_end0
    exact ⟨rfl, hS1, hF1⟩
theorem wrap0 : IntKind.i32.wrap 0 = 0 := rfl
theorem wrap1 : IntKind.i32.wrap 1 = 1 := rfl
theorem wrap2 : IntKind.i32.wrap 2 = 2 := rfl
attribute [local go_sem] wrap0 wrap1 wrap2
set_option maxRecDepth 100000 in
set_option maxHeartbeats 2000000 in
theorem rw_0 (hS : PSt Bb lo ins s w) (h : s.seen = false) {v : Int} {r : List Int} (h2 : s.stk = v :: r) (n : Nat) (hn : n ≤ 2) (hr : r.length = n) :
    Calls Tryz.prog 56 #[.pointer (some ⟨Bb, 514, none⟩), .int .i32 n] w (PTo Bb lo ins { s with seen := true, stk := r } w (.tuple #[])) := by
  obtain ⟨-, -, h566, -, -, -, -, -, -, h666, -⟩ := hS.cell
  rw [h] at h666
  rw [h2, List.length_cons, hr] at h566
  have f666 := hS.free 666
  have hS1 := hS.setSeen true
  have hF1 := PFrm.set Bb lo w 666 (.bool true)
  have hsz : (Tryz.prog.info? 21).map (·.size) = some 1 := by kernel_rfl
  have hu : Tryz.prog.underlying 157 = some (.slice 21) := by kernel_rfl
  match n, hn with
  | 0, _ =>
    obtain rfl := List.length_eq_zero_iff.1 hr
    go_enter Tryz.func56, Tryz.ntmps56
    go_upto_region 5 with (fail)
    generalize w.setCell ⟨Bb, 666, none⟩ (.bool true) = W at hS1 hF1 ⊢
    have hsl := PSt.slide (s := { s with seen := true }) (v := v) (r := []) h2 hS1.drew
    have hS2 : PSt Bb lo ins { s with seen := true, stk := [] } (W.drew.setCell ⟨Bb, 566, none⟩ (.int .i32 0)) := hsl.1
    have hF2 : PFrm Bb lo W.drew (W.drew.setCell ⟨Bb, 566, none⟩ (.int .i32 0)) := hsl.2
    clear hsl
    have g566 : W.cell? ⟨Bb, 566, none⟩ = some (.int .i32 1) := by have := hS1.cell.2.2.1; simp only [h2] at this; exact this
    have g0 := hS1.free 566
    have hrun : ∀ ty, (Builtin.copy_ #[157, 157] ty #[.slice (some ⟨Bb, 518, none⟩) 0 48, .slice (some ⟨Bb, 519, none⟩) 0 47]).run Tryz.prog W.drew = .ok (goInt 0) W.drew := fun ty => run_copy_none W.drew 157 157 ty 21 _ _ 0 48 0 47 hu hsz rfl
    clear h566 h666 f666
    have H1 := Lib.hid hS1
    clear hS1
    refine wp_region_still_tail 21 (by kernel_rfl) (by kernel_rfl) ?_
    change wpStill _ _ (World.drew W) (fun a' => wpList _ _ _ _ a' (World.drew W)) _ _
    simp only [List.take_succ_cons, List.take_zero, List.drop_succ_cons, List.drop_zero]
    iterate 21 (refine' wpS_one (by rfl) ?_ ?_; rotate_left; (focus (go_simp; with_reducible rfl)); simp only [Act.put, List.setIfInBounds_toArray, List.set_cons_zero, List.set_cons_succ])
    refine wpStill_nil ?_
    generalize hD : W.drew = D at hS2 hF2 hrun ⊢
    have d566 : D.cell? ⟨Bb, 566, none⟩ = some (.int .i32 1) := by rw [← hD]; exact g566
    have d0 : D.frozen? ⟨Bb, 566, none⟩ = false := by rw [← hD]; exact g0
    have FD := Lib.hid ((PFrm.drew Bb lo W).trans (hD ▸ hF2 : PFrm Bb lo W.drew _))
    go_wp2_with fail
    go_end0
    exact ⟨rfl, hS2, hF1.trans (hD ▸ FD.out)⟩
  | 1, _ =>
    obtain ⟨a, rfl⟩ := List.length_eq_one_iff.1 hr
    go_enter Tryz.func56, Tryz.ntmps56
    go_upto_region 5 with (fail)
    generalize w.setCell ⟨Bb, 666, none⟩ (.bool true) = W at hS1 hF1 ⊢
    have hsl := PSt.slide (s := { s with seen := true }) (v := v) (r := [a]) h2 hS1.drew
    have hS2 : PSt Bb lo ins { s with seen := true, stk := [a] } ((W.drew.setCell ⟨Bb, 518, none⟩ (.int .i32 a)).setCell ⟨Bb, 566, none⟩ (.int .i32 1)) := hsl.1
    have hF2 : PFrm Bb lo W.drew ((W.drew.setCell ⟨Bb, 518, none⟩ (.int .i32 a)).setCell ⟨Bb, 566, none⟩ (.int .i32 1)) := hsl.2
    clear hsl
    have g566 : W.cell? ⟨Bb, 566, none⟩ = some (.int .i32 2) := by have := hS1.cell.2.2.1; simp only [h2] at this; exact this
    have g0 := hS1.free 566
    have hrun : ∀ ty, (Builtin.copy_ #[157, 157] ty #[.slice (some ⟨Bb, 518, none⟩) 1 48, .slice (some ⟨Bb, 519, none⟩) 1 47]).run Tryz.prog W.drew = .ok (goInt 1) (W.drew.setCell ⟨Bb, 518, none⟩ (.int .i32 a)) := fun ty => by
      have q0 : W.drew.cell? ⟨Bb, 519, none⟩ = some (.int .i32 a) := hS1.drew.arg (i := 1) (by simp only [h2]; rfl)
      exact run_copy_cells (P := Tryz.prog) W.drew 157 157 ty 21 Bb 518 1 48 ⟨Bb, 519, none⟩ 1 47 [.int .i32 a] hu hsz rfl
        (fun j u hj => by
          match j, hj with
          | 0, hj => obtain rfl := Option.some.inj hj; exact q0
          | j + 1, hj => simp at hj)
        (fun j hj => by
          obtain ⟨u, hu⟩ := hS1.drew.any (o := 518 + j) (by simp at hj; omega)
          rw [hu]; rfl) (fun j _ => hS1.drew.free _) (fun u hu => by
          simp only [List.mem_cons, List.mem_nil_iff, or_false] at hu
          rcases hu with rfl <;> rfl)
    clear h566 h666 f666
    have H1 := Lib.hid hS1
    clear hS1
    refine wp_region_still_tail 21 (by kernel_rfl) (by kernel_rfl) ?_
    change wpStill _ _ (World.drew W) (fun a' => wpList _ _ _ _ a' (World.drew W)) _ _
    simp only [List.take_succ_cons, List.take_zero, List.drop_succ_cons, List.drop_zero]
    iterate 21 (refine' wpS_one (by rfl) ?_ ?_; rotate_left; (focus (go_simp; with_reducible rfl)); simp only [Act.put, List.setIfInBounds_toArray, List.set_cons_zero, List.set_cons_succ])
    refine wpStill_nil ?_
    generalize hD : W.drew = D at hS2 hF2 hrun ⊢
    have d566 : D.cell? ⟨Bb, 566, none⟩ = some (.int .i32 2) := by rw [← hD]; exact g566
    have d0 : D.frozen? ⟨Bb, 566, none⟩ = false := by rw [← hD]; exact g0
    have FD := Lib.hid ((PFrm.drew Bb lo W).trans (hD ▸ hF2 : PFrm Bb lo W.drew _))
    go_wp2_with fail
    go_end0
    exact ⟨rfl, hS2, hF1.trans (hD ▸ FD.out)⟩
  | 2, _ =>
    obtain ⟨a, b, rfl⟩ : ∃ a b, r = [a, b] := by match r, hr with | [a, b], _ => exact ⟨a, b, rfl⟩
    go_enter Tryz.func56, Tryz.ntmps56
    go_upto_region 5 with (fail)
    generalize w.setCell ⟨Bb, 666, none⟩ (.bool true) = W at hS1 hF1 ⊢
    have hsl := PSt.slide (s := { s with seen := true }) (v := v) (r := [a, b]) h2 hS1.drew
    have hS2 : PSt Bb lo ins { s with seen := true, stk := [a, b] } (((W.drew.setCell ⟨Bb, 518, none⟩ (.int .i32 a)).setCell ⟨Bb, 519, none⟩ (.int .i32 b)).setCell ⟨Bb, 566, none⟩ (.int .i32 2)) := hsl.1
    have hF2 : PFrm Bb lo W.drew (((W.drew.setCell ⟨Bb, 518, none⟩ (.int .i32 a)).setCell ⟨Bb, 519, none⟩ (.int .i32 b)).setCell ⟨Bb, 566, none⟩ (.int .i32 2)) := hsl.2
    clear hsl
    have g566 : W.cell? ⟨Bb, 566, none⟩ = some (.int .i32 3) := by have := hS1.cell.2.2.1; simp only [h2] at this; exact this
    have g0 := hS1.free 566
    have hrun : ∀ ty, (Builtin.copy_ #[157, 157] ty #[.slice (some ⟨Bb, 518, none⟩) 2 48, .slice (some ⟨Bb, 519, none⟩) 2 47]).run Tryz.prog W.drew = .ok (goInt 2) ((W.drew.setCell ⟨Bb, 518, none⟩ (.int .i32 a)).setCell ⟨Bb, 519, none⟩ (.int .i32 b)) := fun ty => by
      have q0 : W.drew.cell? ⟨Bb, 519, none⟩ = some (.int .i32 a) := hS1.drew.arg (i := 1) (by simp only [h2]; rfl)
      have q1 : W.drew.cell? ⟨Bb, 520, none⟩ = some (.int .i32 b) := hS1.drew.arg (i := 2) (by simp only [h2]; rfl)
      exact run_copy_cells (P := Tryz.prog) W.drew 157 157 ty 21 Bb 518 2 48 ⟨Bb, 519, none⟩ 2 47 [.int .i32 a, .int .i32 b] hu hsz rfl
        (fun j u hj => by
          match j, hj with
          | 0, hj => obtain rfl := Option.some.inj hj; exact q0
          | 1, hj => obtain rfl := Option.some.inj hj; exact q1
          | j + 2, hj => simp at hj)
        (fun j hj => by
          obtain ⟨u, hu⟩ := hS1.drew.any (o := 518 + j) (by simp at hj; omega)
          rw [hu]; rfl) (fun j _ => hS1.drew.free _) (fun u hu => by
          simp only [List.mem_cons, List.mem_nil_iff, or_false] at hu
          rcases hu with rfl | rfl <;> rfl)
    clear h566 h666 f666
    have H1 := Lib.hid hS1
    clear hS1
    refine wp_region_still_tail 21 (by kernel_rfl) (by kernel_rfl) ?_
    change wpStill _ _ (World.drew W) (fun a' => wpList _ _ _ _ a' (World.drew W)) _ _
    simp only [List.take_succ_cons, List.take_zero, List.drop_succ_cons, List.drop_zero]
    iterate 21 (refine' wpS_one (by rfl) ?_ ?_; rotate_left; (focus (go_simp; with_reducible rfl)); simp only [Act.put, List.setIfInBounds_toArray, List.set_cons_zero, List.set_cons_succ])
    refine wpStill_nil ?_
    generalize hD : W.drew = D at hS2 hF2 hrun ⊢
    have d566 : D.cell? ⟨Bb, 566, none⟩ = some (.int .i32 3) := by rw [← hD]; exact g566
    have d0 : D.frozen? ⟨Bb, 566, none⟩ = false := by rw [← hD]; exact g0
    have FD := Lib.hid ((PFrm.drew Bb lo W).trans (hD ▸ hF2 : PFrm Bb lo W.drew _))
    go_wp2_with fail
    go_end0
    exact ⟨rfl, hS2, hF1.trans (hD ▸ FD.out)⟩

theorem rw_st (hS : PSt Bb lo ins s w) {r : List Int} (hst : s.stk = r ∨ s.seen = false ∧ ∃ v, s.stk = v :: r) (n : Nat) (hn : n ≤ 2) (hr : r.length = n) :
    Calls Tryz.prog 56 #[.pointer (some ⟨Bb, 514, none⟩), .int .i32 n] w (PTo Bb lo ins { s with seen := true, stk := r } w (.tuple #[])) := by
  cases hb : s.seen with
  | true =>
    rcases hst with h | h
    · have e : s = { s with seen := true, stk := r } := by obtain ⟨_, _, _, _, _, _, _, _⟩ := s; simp only at hb h; subst hb; subst h; rfl
      have := rw_seen hS hb n
      rw [← e]; exact this
    · rw [hb] at h; exact absurd h.1 (by decide)
  | false =>
    rcases hst with h | ⟨_, v, h⟩
    · have e : ({ s with seen := true } : PS) = { s with seen := true, stk := r } := by obtain ⟨_, _, _, _, _, _, _, _⟩ := s; simp only at h; subst h; rfl
      have := rw_none hS hb n hn (by rw [h, hr])
      rw [← e]; exact this
    · exact rw_0 hS hb h n hn hr
end
end Go.Proofs.YtoanpkfekhkaoaaGreatDoor
