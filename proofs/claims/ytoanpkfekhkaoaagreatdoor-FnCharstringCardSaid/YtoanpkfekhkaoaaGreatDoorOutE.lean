/-
  pathIs: its rounds. Conditions: both paths lie in memory.
-/
import Derived.Test.YtoanpkfekhkaoaaGreatDoorOutC
import Derived.BigQuiet
namespace Go.Proofs.YtoanpkfekhkaoaaGreatDoor
open Go Go.RowKit
noncomputable def body6 : Code := ((Tryz.f6.body.bind firstLoop).getD .skip)
set_option maxRecDepth 100000 in
def fr6 (v vp : Value) (k i : Nat) (u : Nat → Value) : Array Value := #[v, vp, u 2, u 3, u 4, u 5, u 6, u 7, u 8, u 9, u 10, u 11, u 12, v, .int .i64 k, .int .i64 i, u 16, u 17, u 18, u 19, u 20, u 21, u 22, u 23, u 24, u 25, u 26, u 27, u 28, u 29, u 30, u 31, u 32, u 33, u 34, u 35, u 36, u 37, u 38, u 39, u 40, u 41, u 42, u 43, u 44, u 45, u 46, u 47, u 48, u 49, u 50, u 51, u 52, u 53, u 54, u 55, u 56, u 57, u 58, u 59, u 60, u 61, u 62, u 63, u 64, u 65, u 66, u 67, u 68, u 69, u 70, u 71, u 72, u 73, u 74, u 75, u 76, u 77, u 78, u 79, u 80, u 81, u 82]
structure Fx6 (v vp : Value) (k i : Nat) (t : Array Value) : Prop where
  size : t.size = 83
  s0 : t[0]? = some v
  s1 : t[1]? = some vp
  s13 : t[13]? = some v
  s14 : t[14]? = some (.int .i64 k)
  s15 : t[15]? = some (.int .i64 i)
def slot6 (v vp : Value) (k i : Nat) (u : Nat → Value) : Nat → Value
  | 0 => v
  | 1 => vp
  | 13 => v
  | 14 => .int .i64 k
  | 15 => .int .i64 i
  | n => u n
set_option maxRecDepth 100000 in
theorem fr6_eq (v vp : Value) (k i : Nat) (u : Nat → Value) : fr6 v vp k i u = ((List.range 83).map (slot6 v vp k i u)).toArray := by
  kernel_rfl
theorem Fx6.lit {v vp : Value} {k i : Nat} {t : Array Value} (h : Fx6 v vp k i t) : t = fr6 v vp k i fun j => t.getD j undef := by
  rw [fr6_eq]
  apply Array.ext_getElem?
  intro j
  by_cases hj : j < 83
  · have hg : t[j]? = some (t.getD j undef) := by simp [Array.getD, h.size, hj]
    have e : (((List.range 83).map (slot6 v vp k i fun j => t.getD j undef)).toArray)[j]? = some (slot6 v vp k i (fun j => t.getD j undef) j) := by simp [hj]
    rw [e]
    unfold slot6
    split
    · exact h.s0
    · exact h.s1
    · exact h.s13
    · exact h.s14
    · exact h.s15
    · exact hg
  · rw [Array.getElem?_eq_none (by have := h.size; omega), Array.getElem?_eq_none (by simp; omega)]
theorem below_N {B : Nat} {a w : World} (h : Below B a w) (q : Nat) : Below B a (w.drewN q) := ⟨h.os, h.tape, h.output, h.size, h.block⟩
theorem below_A {a w : World} (h : Below a.heap.size a w) (o : Obj) : Below a.heap.size a (w.alloc o) := h.alloc h.size o
section
variable {vb pb cv cp k i g1 g2 c1 : Nat} {w : World} {u : Nat → Value} {Q : Exit → Act → World → Prop}
attribute [local go_sem ↓] Go.wp_at_zero Go.wp_at_succ
set_option maxRecDepth 100000 in
theorem end6 {v vp : Value} (hQ : ∀ t, Fx6 v vp k k t → Q (.exit 0) ⟨t, []⟩ w) : Code.wp Tryz.prog body6 Q ⟨fr6 v vp k k u, []⟩ w := by
  have HQ := Lib.hid hQ
  clear hQ
  conv => arg 2; whnf
  unfold fr6
  go_wp2_with fail
  exact HQ.out _ ⟨rfl, rfl, rfl, rfl, rfl, rfl⟩
set_option maxRecDepth 100000 in
set_option maxHeartbeats 4000000 in
theorem seg6_1 {op x0 y0 : Int} (hi : i < k) (hkc : k ≤ 100000) (a0 : w.cell? ⟨vb, i * 2, none⟩ = some (.int .i64 op)) (a1 : w.cell? ⟨vb, i * 2 + 1, none⟩ = some (.slice (some ⟨g1, 0, none⟩) 1 c1))
    (b0 : w.cell? ⟨pb, i * 2, none⟩ = some (.int .i64 op)) (b1 : w.cell? ⟨pb, i * 2 + 1, none⟩ = some (.slice (some ⟨g2, 0, none⟩) 1 1))
    (p0 : w.cell? ⟨g1, 0, none⟩ = some (.int .i64 x0)) (r0 : w.cell? ⟨g2, 0, none⟩ = some (.int .i64 x0))
    (p1 : w.cell? ⟨g1, 1, none⟩ = some (.int .i64 y0)) (r1 : w.cell? ⟨g2, 1, none⟩ = some (.int .i64 y0))
    (l1 : vb < w.heap.size) (l2 : pb < w.heap.size) (l3 : g1 < w.heap.size) (l4 : g2 < w.heap.size)
    (hQ : ∀ t w', Fx6 (.slice (some ⟨vb, 0, none⟩) k cv) (.slice (some ⟨pb, 0, none⟩) k cp) k (i + 1) t → Below w.heap.size w w' → Q .normal ⟨t, []⟩ w') :
    Code.wp Tryz.prog body6 Q ⟨fr6 (.slice (some ⟨vb, 0, none⟩) k cv) (.slice (some ⟨pb, 0, none⟩) k cp) k i u, []⟩ w := by
  have HQ := Lib.hid hQ
  clear hQ
  conv => arg 2; whnf
  unfold fr6
  go_upto_region 8 with (go_quiet (fail))
  obtain ⟨W, hW⟩ : ∃ W, W = w.drewN nq := ⟨_, rfl⟩
  rw [← hW]
  have hz : W.heap.size = w.heap.size := by rw [hW]; rfl
  have hc : ∀ a, w.cell? a = W.cell? a := fun a => by rw [hW]; rfl
  have hB : Below w.heap.size w W := by rw [hW]; exact below_N (Below.refl _ _) nq
  rw [hc] at a1 b1 p0 p1 r0 r1
  rw [← hz] at l2 l3 l4 hB
  have HB := Lib.hid hB
  have HZ := Lib.hid hz
  clear hW hc a0 b0 l1 hB hz
  go_wp2_with fail
  refine wp_loop_rounds 2 ?_
  rw [rounds_succ]
  go_upto_region 11 with (fail)
  obtain ⟨V1, hW⟩ : ∃ W', W' = W.alloc (.cells #[.int .i64 x0, .int .i64 y0] 55) := ⟨_, rfl⟩
  rw [← hW]
  have hB : Below W.heap.size W V1 := by rw [hW]; exact below_A (Below.refl _ _) _
  have hc : ∀ b o, b < W.heap.size → V1.cell? ⟨b, o, none⟩ = W.cell? ⟨b, o, none⟩ := fun b o h => by rw [hW]; exact cell_past h
  have d0 : V1.cell? ⟨W.heap.size, 0, none⟩ = some (.int .i64 x0) := by rw [hW, blk_cell (blk_new _ _)]; rfl
  have d1 : V1.cell? ⟨W.heap.size, 1, none⟩ = some (.int .i64 y0) := by rw [hW, blk_cell (blk_new _ _)]; rfl
  replace b1 := (hc pb _ l2).trans b1
  replace p0 := (hc g1 _ l3).trans p0
  replace p1 := (hc g1 _ l3).trans p1
  replace r0 := (hc g2 _ l4).trans r0
  replace r1 := (hc g2 _ l4).trans r1
  replace l2 := Nat.lt_of_lt_of_le l2 hB.size
  replace l3 := Nat.lt_of_lt_of_le l3 hB.size
  replace l4 := Nat.lt_of_lt_of_le l4 hB.size
  replace HB := Lib.hid (HB.out.trans (hB.mono (Nat.le_refl _)))
  clear hW hB hc
  go_wp2_with (go_quiet (fail))
  obtain ⟨W1, hW⟩ : ∃ W', W' = V1.drewN nq := ⟨_, rfl⟩
  rw [← hW]
  have hc : ∀ a, W1.cell? a = V1.cell? a := fun a => by rw [hW]; rfl
  replace HB := Lib.hid (HB.out.trans (by rw [hW]; exact below_N (Below.refl _ _) nq : Below _ V1 W1))
  have hs : V1.heap.size = W1.heap.size := by rw [hW]; rfl
  rw [hs] at l2 l3 l4
  rw [← hc] at b1 p0 p1 r0 r1
  clear hW hc hs d0 d1
  rw [rounds_succ]
  go_wp2_with (go_quiet (fail))
  exact HQ.out _ _ ⟨rfl, rfl, rfl, rfl, rfl, rfl⟩ (HZ.out ▸ HB.out)
set_option maxRecDepth 100000 in
set_option maxHeartbeats 4000000 in
theorem seg6_3 {op x0 y0 x1 y1 x2 y2 : Int} (hi : i < k) (hkc : k ≤ 100000) (a0 : w.cell? ⟨vb, i * 2, none⟩ = some (.int .i64 op)) (a1 : w.cell? ⟨vb, i * 2 + 1, none⟩ = some (.slice (some ⟨g1, 0, none⟩) 3 c1))
    (b0 : w.cell? ⟨pb, i * 2, none⟩ = some (.int .i64 op)) (b1 : w.cell? ⟨pb, i * 2 + 1, none⟩ = some (.slice (some ⟨g2, 0, none⟩) 3 3))
    (p0 : w.cell? ⟨g1, 0, none⟩ = some (.int .i64 x0)) (r0 : w.cell? ⟨g2, 0, none⟩ = some (.int .i64 x0))
    (p1 : w.cell? ⟨g1, 1, none⟩ = some (.int .i64 y0)) (r1 : w.cell? ⟨g2, 1, none⟩ = some (.int .i64 y0))
    (p2 : w.cell? ⟨g1, 2, none⟩ = some (.int .i64 x1)) (r2 : w.cell? ⟨g2, 2, none⟩ = some (.int .i64 x1))
    (p3 : w.cell? ⟨g1, 3, none⟩ = some (.int .i64 y1)) (r3 : w.cell? ⟨g2, 3, none⟩ = some (.int .i64 y1))
    (p4 : w.cell? ⟨g1, 4, none⟩ = some (.int .i64 x2)) (r4 : w.cell? ⟨g2, 4, none⟩ = some (.int .i64 x2))
    (p5 : w.cell? ⟨g1, 5, none⟩ = some (.int .i64 y2)) (r5 : w.cell? ⟨g2, 5, none⟩ = some (.int .i64 y2))
    (l1 : vb < w.heap.size) (l2 : pb < w.heap.size) (l3 : g1 < w.heap.size) (l4 : g2 < w.heap.size)
    (hQ : ∀ t w', Fx6 (.slice (some ⟨vb, 0, none⟩) k cv) (.slice (some ⟨pb, 0, none⟩) k cp) k (i + 1) t → Below w.heap.size w w' → Q .normal ⟨t, []⟩ w') :
    Code.wp Tryz.prog body6 Q ⟨fr6 (.slice (some ⟨vb, 0, none⟩) k cv) (.slice (some ⟨pb, 0, none⟩) k cp) k i u, []⟩ w := by
  have HQ := Lib.hid hQ
  clear hQ
  conv => arg 2; whnf
  unfold fr6
  go_upto_region 8 with (go_quiet (fail))
  obtain ⟨W, hW⟩ : ∃ W, W = w.drewN nq := ⟨_, rfl⟩
  rw [← hW]
  have hz : W.heap.size = w.heap.size := by rw [hW]; rfl
  have hc : ∀ a, w.cell? a = W.cell? a := fun a => by rw [hW]; rfl
  have hB : Below w.heap.size w W := by rw [hW]; exact below_N (Below.refl _ _) nq
  rw [hc] at a1 b1 p0 p1 p2 p3 p4 p5 r0 r1 r2 r3 r4 r5
  rw [← hz] at l2 l3 l4 hB
  have HB := Lib.hid hB
  have HZ := Lib.hid hz
  clear hW hc a0 b0 l1 hB hz
  go_wp2_with fail
  refine wp_loop_rounds 4 ?_
  rw [rounds_succ]
  go_upto_region 11 with (fail)
  obtain ⟨V1, hW⟩ : ∃ W', W' = W.alloc (.cells #[.int .i64 x0, .int .i64 y0] 55) := ⟨_, rfl⟩
  rw [← hW]
  have hB : Below W.heap.size W V1 := by rw [hW]; exact below_A (Below.refl _ _) _
  have hc : ∀ b o, b < W.heap.size → V1.cell? ⟨b, o, none⟩ = W.cell? ⟨b, o, none⟩ := fun b o h => by rw [hW]; exact cell_past h
  have d0 : V1.cell? ⟨W.heap.size, 0, none⟩ = some (.int .i64 x0) := by rw [hW, blk_cell (blk_new _ _)]; rfl
  have d1 : V1.cell? ⟨W.heap.size, 1, none⟩ = some (.int .i64 y0) := by rw [hW, blk_cell (blk_new _ _)]; rfl
  replace b1 := (hc pb _ l2).trans b1
  replace p0 := (hc g1 _ l3).trans p0
  replace p1 := (hc g1 _ l3).trans p1
  replace p2 := (hc g1 _ l3).trans p2
  replace p3 := (hc g1 _ l3).trans p3
  replace p4 := (hc g1 _ l3).trans p4
  replace p5 := (hc g1 _ l3).trans p5
  replace r0 := (hc g2 _ l4).trans r0
  replace r1 := (hc g2 _ l4).trans r1
  replace r2 := (hc g2 _ l4).trans r2
  replace r3 := (hc g2 _ l4).trans r3
  replace r4 := (hc g2 _ l4).trans r4
  replace r5 := (hc g2 _ l4).trans r5
  replace l2 := Nat.lt_of_lt_of_le l2 hB.size
  replace l3 := Nat.lt_of_lt_of_le l3 hB.size
  replace l4 := Nat.lt_of_lt_of_le l4 hB.size
  replace HB := Lib.hid (HB.out.trans (hB.mono (Nat.le_refl _)))
  clear hW hB hc
  go_wp2_with (go_quiet (fail))
  obtain ⟨W1, hW⟩ : ∃ W', W' = V1.drewN nq := ⟨_, rfl⟩
  rw [← hW]
  have hc : ∀ a, W1.cell? a = V1.cell? a := fun a => by rw [hW]; rfl
  replace HB := Lib.hid (HB.out.trans (by rw [hW]; exact below_N (Below.refl _ _) nq : Below _ V1 W1))
  have hs : V1.heap.size = W1.heap.size := by rw [hW]; rfl
  rw [hs] at l2 l3 l4
  rw [← hc] at b1 p0 p1 p2 p3 p4 p5 r0 r1 r2 r3 r4 r5
  clear hW hc hs d0 d1
  rw [rounds_succ]
  go_upto_region 11 with (fail)
  obtain ⟨V2, hW⟩ : ∃ W', W' = W1.alloc (.cells #[.int .i64 x1, .int .i64 y1] 55) := ⟨_, rfl⟩
  rw [← hW]
  have hB : Below W1.heap.size W1 V2 := by rw [hW]; exact below_A (Below.refl _ _) _
  have hc : ∀ b o, b < W1.heap.size → V2.cell? ⟨b, o, none⟩ = W1.cell? ⟨b, o, none⟩ := fun b o h => by rw [hW]; exact cell_past h
  have d0 : V2.cell? ⟨W1.heap.size, 0, none⟩ = some (.int .i64 x1) := by rw [hW, blk_cell (blk_new _ _)]; rfl
  have d1 : V2.cell? ⟨W1.heap.size, 1, none⟩ = some (.int .i64 y1) := by rw [hW, blk_cell (blk_new _ _)]; rfl
  replace b1 := (hc pb _ l2).trans b1
  replace p0 := (hc g1 _ l3).trans p0
  replace p1 := (hc g1 _ l3).trans p1
  replace p2 := (hc g1 _ l3).trans p2
  replace p3 := (hc g1 _ l3).trans p3
  replace p4 := (hc g1 _ l3).trans p4
  replace p5 := (hc g1 _ l3).trans p5
  replace r0 := (hc g2 _ l4).trans r0
  replace r1 := (hc g2 _ l4).trans r1
  replace r2 := (hc g2 _ l4).trans r2
  replace r3 := (hc g2 _ l4).trans r3
  replace r4 := (hc g2 _ l4).trans r4
  replace r5 := (hc g2 _ l4).trans r5
  replace l2 := Nat.lt_of_lt_of_le l2 hB.size
  replace l3 := Nat.lt_of_lt_of_le l3 hB.size
  replace l4 := Nat.lt_of_lt_of_le l4 hB.size
  replace HB := Lib.hid (HB.out.trans (hB.mono (by have := HB.out.size; have := HZ.out; omega)))
  clear hW hB hc
  go_wp2_with (go_quiet (fail))
  obtain ⟨W2, hW⟩ : ∃ W', W' = V2.drewN nq := ⟨_, rfl⟩
  rw [← hW]
  have hc : ∀ a, W2.cell? a = V2.cell? a := fun a => by rw [hW]; rfl
  replace HB := Lib.hid (HB.out.trans (by rw [hW]; exact below_N (Below.refl _ _) nq : Below _ V2 W2))
  have hs : V2.heap.size = W2.heap.size := by rw [hW]; rfl
  rw [hs] at l2 l3 l4
  rw [← hc] at b1 p0 p1 p2 p3 p4 p5 r0 r1 r2 r3 r4 r5
  clear hW hc hs d0 d1
  rw [rounds_succ]
  go_upto_region 11 with (fail)
  obtain ⟨V3, hW⟩ : ∃ W', W' = W2.alloc (.cells #[.int .i64 x2, .int .i64 y2] 55) := ⟨_, rfl⟩
  rw [← hW]
  have hB : Below W2.heap.size W2 V3 := by rw [hW]; exact below_A (Below.refl _ _) _
  have hc : ∀ b o, b < W2.heap.size → V3.cell? ⟨b, o, none⟩ = W2.cell? ⟨b, o, none⟩ := fun b o h => by rw [hW]; exact cell_past h
  have d0 : V3.cell? ⟨W2.heap.size, 0, none⟩ = some (.int .i64 x2) := by rw [hW, blk_cell (blk_new _ _)]; rfl
  have d1 : V3.cell? ⟨W2.heap.size, 1, none⟩ = some (.int .i64 y2) := by rw [hW, blk_cell (blk_new _ _)]; rfl
  replace b1 := (hc pb _ l2).trans b1
  replace p0 := (hc g1 _ l3).trans p0
  replace p1 := (hc g1 _ l3).trans p1
  replace p2 := (hc g1 _ l3).trans p2
  replace p3 := (hc g1 _ l3).trans p3
  replace p4 := (hc g1 _ l3).trans p4
  replace p5 := (hc g1 _ l3).trans p5
  replace r0 := (hc g2 _ l4).trans r0
  replace r1 := (hc g2 _ l4).trans r1
  replace r2 := (hc g2 _ l4).trans r2
  replace r3 := (hc g2 _ l4).trans r3
  replace r4 := (hc g2 _ l4).trans r4
  replace r5 := (hc g2 _ l4).trans r5
  replace l2 := Nat.lt_of_lt_of_le l2 hB.size
  replace l3 := Nat.lt_of_lt_of_le l3 hB.size
  replace l4 := Nat.lt_of_lt_of_le l4 hB.size
  replace HB := Lib.hid (HB.out.trans (hB.mono (by have := HB.out.size; have := HZ.out; omega)))
  clear hW hB hc
  go_wp2_with (go_quiet (fail))
  obtain ⟨W3, hW⟩ : ∃ W', W' = V3.drewN nq := ⟨_, rfl⟩
  rw [← hW]
  have hc : ∀ a, W3.cell? a = V3.cell? a := fun a => by rw [hW]; rfl
  replace HB := Lib.hid (HB.out.trans (by rw [hW]; exact below_N (Below.refl _ _) nq : Below _ V3 W3))
  have hs : V3.heap.size = W3.heap.size := by rw [hW]; rfl
  rw [hs] at l2 l3 l4
  rw [← hc] at b1 p0 p1 p2 p3 p4 p5 r0 r1 r2 r3 r4 r5
  clear hW hc hs d0 d1
  rw [rounds_succ]
  go_wp2_with (go_quiet (fail))
  exact HQ.out _ _ ⟨rfl, rfl, rfl, rfl, rfl, rfl⟩ (HZ.out ▸ HB.out)
end
end Go.Proofs.YtoanpkfekhkaoaaGreatDoor
