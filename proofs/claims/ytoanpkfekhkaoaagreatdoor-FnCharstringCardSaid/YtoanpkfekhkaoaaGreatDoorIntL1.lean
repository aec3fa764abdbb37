/-
  Rounds of the interpreter's loop, an operator each, second part. Conditions: the loop's frame.
-/
import Derived.Test.YtoanpkfekhkaoaaGreatDoorIntK
import Derived.Test.YtoanpkfekhkaoaaGreatDoorIntS
import Derived.Deep.Cut
namespace Go.Proofs.YtoanpkfekhkaoaaGreatDoor
open Go Go.RowKit
section
variable {Bb lo g o n c : Nat} {s : PS} {w : World} {u : Nat → Value} {Q : Exit → Act → World → Prop}
attribute [local go_sem ↓] Go.wp_at_zero Go.wp_at_succ
set_option maxRecDepth 100000 in
set_option maxHeartbeats 4000000 in
theorem round_op14 (hS : PSt Bb lo (.slice (some ⟨g, o, none⟩) n c) s w) (hn : 1 ≤ n) (hnc : n ≤ c) (hcb : c ≤ 9223372036854775807) (hb0 : w.cell? ⟨g, o, none⟩ = some (.int .u8 14)) {s' : PS} (hO : OpOk 41 (n - 1) s s')
    (hQ : ∀ t ins w', FxR Bb t → InsAt g (o + 1) (n - 1) ins → PSt Bb lo ins { s' with stk := [] } w' → PFrm Bb lo w w' → Q .normal ⟨t, []⟩ w') : Code.wp Tryz.prog bodyR Q ⟨frR Bb u, []⟩ w := by
  have h515 := hS.cell.2.1
  have f515 := hS.free 515
  have hIA := InsAt.cut (g := g) (o := o) (n := n) (c := c) (k := 1) hn hnc hcb
  have HQ := Lib.hid hQ
  have HO := Lib.hid hO
  clear hQ hO
  conv => arg 2; whnf
  unfold frR
  by_cases hck : c = 1
  · rw [if_pos hck] at hIA
    subst hck
    obtain rfl : n = 1 := by omega
    have hS1 := hS.setIns (.slice (some ⟨g, o, none⟩) 0 0)
    have hF1 := PFrm.set Bb lo w 515 (.slice (some ⟨g, o, none⟩) 0 0)
    go_wp2_with fail
    refine (pn_op hS (by omega) 14 (by omega) (by omega) (by omega) hb0).mono ?_
    rintro e w9 ⟨rfl, hw9⟩
    rw [hw9]
    clear hw9 w9
    go_upto_region 14 with (fail)
    generalize w.setCell ⟨Bb, 515, none⟩ (.slice (some ⟨g, o, none⟩) 0 0) = W at hS1 hF1 ⊢
    clear hb0 f515 h515
    go_wp2_with fail
    refine (tab_c W).mono ?_
    rintro e w1 ⟨rfl, hB1, hz1, cur, m, hT, hrow⟩
    obtain ⟨r0, r1, r2⟩ := hrow (14, #[101, 110, 100, 99, 104, 97, 114], 41) (by simp [tabRows])
    have c0 : w1.cell? ⟨W.heap.size + 5, 42, none⟩ = some (.int .i32 (-1)) := by rw [blk_cell hT]; exact r0
    have c1 : w1.cell? ⟨W.heap.size + 5, 43, none⟩ = some (.string ⟨#[101, 110, 100, 99, 104, 97, 114]⟩) := by rw [blk_cell hT]; exact r1
    have c2 : w1.cell? ⟨W.heap.size + 5, 44, none⟩ = some (.func (.func 41) #[] #[]) := by rw [blk_cell hT]; exact r2
    have hS2 := hS1.below hB1
    have hlt := hS2.lt
    have hF2 : PFrm Bb lo W w1 := ⟨hB1.os, hB1.tape, hB1.output, hB1.size, fun k hk _ _ => hB1.block k hk⟩
    have h5 : W.heap.size + 5 < w1.heap.size := by omega
    have hltW : Bb < w1.heap.size := by omega
    have h566 : w1.cell? ⟨Bb, 566, none⟩ = some (.int .i32 s.stk.length) := hS2.cell.2.2.1
    have hm0 : ∃ m0 : Nat, m0 = s.stk.length := ⟨_, rfl⟩
    obtain ⟨m0, hm0⟩ := hm0
    rw [← hm0] at h566
    clear hm0
    have hix : ∀ (a b : Option Addr) (W' : World), (Instr.index 119 (.agg #[.slice a 32 32, .slice b 37 37]) (.int .i64 0)).run Tryz.prog W' = .ok (.slice a 32 32) W' := fun _ _ _ => by kernel_rfl
    have hst : ∀ W' : World, W'.heap[w1.heap.size]? = some (.cells #[.int .i32 (-1), .string ⟨#[101, 110, 100, 99, 104, 97, 114]⟩, .nilFunc] 123 (0, 0)) → (store ⟨w1.heap.size, 2, none⟩ (.func (.func 41) #[] #[])).run Tryz.prog W' = .ok () (W'.setCell ⟨w1.heap.size, 2, none⟩ (.func (.func 41) #[] #[])) := fun W' h => by
      rw [run_store _ _ _ _ _ rfl, blk_cell h, blk_free h]
      rfl
    have hst := hst (w1.alloc _) (blk_new w1 _)
    have hbn : ∀ W' : World, (binOp .neq 121 (.func (.func 41) #[] #[]) .nilFunc).run Tryz.prog W' = .ok (.bool true) W' := fun _ => by kernel_rfl
    clear r0 r1 r2 hrow hT
    go_wp2_with fail
    refine wp_loop_rounds 1 ?_
    rw [rounds_succ]
    go_wp2_with (go_quiet (fail))
    refine (HO.out Bb lo _ _ _ ((hS2.alloc _).drewN nq)).mono ?_
    rintro e w2 ⟨rfl, hS4, hF4⟩
    have k0 : w2.cell? ⟨w1.heap.size, 0, none⟩ = some (.int .i32 (-1)) := by
      have hb := hF4.blk w1.heap.size (by simp) (by omega) (fun _ => isTy.ne (blk_new w1 _) (by decide))
      rw [blk_cell (hb.trans (blk_new w1 _))]; rfl
    have f566 := hS4.free 566
    obtain ⟨v566, h566⟩ := hS4.any (o := 566) (by decide)
    have hS5 : PSt Bb lo _ { s' with stk := [] } (w2.setCell ⟨Bb, 566, none⟩ (.int .i32 0)) := hS4.setTop 0 (Nat.zero_le _)
    have hF5 := hF1.trans (hF2.trans ((PFrm.alloc Bb lo w1 _).trans ((PFrm.drewN Bb lo _ nq).trans (hF4.trans (PFrm.set Bb lo w2 566 (.int .i32 0))))))
    clear hS4 hF4 c0 c1 c2 hst hbn hix
    go_wp2_with fail
    exact HQ.out _ _ _ ⟨rfl, rfl, rfl⟩ hIA hS5 hF5
  · rw [if_neg hck] at hIA
    have hS1 := hS.setIns (.slice (some ⟨g, o + 1, none⟩) (n - 1) (c - 1))
    have hF1 := PFrm.set Bb lo w 515 (.slice (some ⟨g, o + 1, none⟩) (n - 1) (c - 1))
    go_wp2_with fail
    refine (pn_op hS (by omega) 14 (by omega) (by omega) (by omega) hb0).mono ?_
    rintro e w9 ⟨rfl, hw9⟩
    rw [hw9]
    clear hw9 w9
    go_upto_region 14 with (fail)
    generalize w.setCell ⟨Bb, 515, none⟩ (.slice (some ⟨g, o + 1, none⟩) (n - 1) (c - 1)) = W at hS1 hF1 ⊢
    clear hb0 f515 h515
    go_wp2_with fail
    refine (tab_c W).mono ?_
    rintro e w1 ⟨rfl, hB1, hz1, cur, m, hT, hrow⟩
    obtain ⟨r0, r1, r2⟩ := hrow (14, #[101, 110, 100, 99, 104, 97, 114], 41) (by simp [tabRows])
    have c0 : w1.cell? ⟨W.heap.size + 5, 42, none⟩ = some (.int .i32 (-1)) := by rw [blk_cell hT]; exact r0
    have c1 : w1.cell? ⟨W.heap.size + 5, 43, none⟩ = some (.string ⟨#[101, 110, 100, 99, 104, 97, 114]⟩) := by rw [blk_cell hT]; exact r1
    have c2 : w1.cell? ⟨W.heap.size + 5, 44, none⟩ = some (.func (.func 41) #[] #[]) := by rw [blk_cell hT]; exact r2
    have hS2 := hS1.below hB1
    have hlt := hS2.lt
    have hF2 : PFrm Bb lo W w1 := ⟨hB1.os, hB1.tape, hB1.output, hB1.size, fun k hk _ _ => hB1.block k hk⟩
    have h5 : W.heap.size + 5 < w1.heap.size := by omega
    have hltW : Bb < w1.heap.size := by omega
    have h566 : w1.cell? ⟨Bb, 566, none⟩ = some (.int .i32 s.stk.length) := hS2.cell.2.2.1
    have hm0 : ∃ m0 : Nat, m0 = s.stk.length := ⟨_, rfl⟩
    obtain ⟨m0, hm0⟩ := hm0
    rw [← hm0] at h566
    clear hm0
    have hix : ∀ (a b : Option Addr) (W' : World), (Instr.index 119 (.agg #[.slice a 32 32, .slice b 37 37]) (.int .i64 0)).run Tryz.prog W' = .ok (.slice a 32 32) W' := fun _ _ _ => by kernel_rfl
    have hst : ∀ W' : World, W'.heap[w1.heap.size]? = some (.cells #[.int .i32 (-1), .string ⟨#[101, 110, 100, 99, 104, 97, 114]⟩, .nilFunc] 123 (0, 0)) → (store ⟨w1.heap.size, 2, none⟩ (.func (.func 41) #[] #[])).run Tryz.prog W' = .ok () (W'.setCell ⟨w1.heap.size, 2, none⟩ (.func (.func 41) #[] #[])) := fun W' h => by
      rw [run_store _ _ _ _ _ rfl, blk_cell h, blk_free h]
      rfl
    have hst := hst (w1.alloc _) (blk_new w1 _)
    have hbn : ∀ W' : World, (binOp .neq 121 (.func (.func 41) #[] #[]) .nilFunc).run Tryz.prog W' = .ok (.bool true) W' := fun _ => by kernel_rfl
    clear r0 r1 r2 hrow hT
    go_wp2_with fail
    refine wp_loop_rounds 1 ?_
    rw [rounds_succ]
    go_wp2_with (go_quiet (fail))
    refine (HO.out Bb lo _ _ _ ((hS2.alloc _).drewN nq)).mono ?_
    rintro e w2 ⟨rfl, hS4, hF4⟩
    have k0 : w2.cell? ⟨w1.heap.size, 0, none⟩ = some (.int .i32 (-1)) := by
      have hb := hF4.blk w1.heap.size (by simp) (by omega) (fun _ => isTy.ne (blk_new w1 _) (by decide))
      rw [blk_cell (hb.trans (blk_new w1 _))]; rfl
    have f566 := hS4.free 566
    obtain ⟨v566, h566⟩ := hS4.any (o := 566) (by decide)
    have hS5 : PSt Bb lo _ { s' with stk := [] } (w2.setCell ⟨Bb, 566, none⟩ (.int .i32 0)) := hS4.setTop 0 (Nat.zero_le _)
    have hF5 := hF1.trans (hF2.trans ((PFrm.alloc Bb lo w1 _).trans ((PFrm.drewN Bb lo _ nq).trans (hF4.trans (PFrm.set Bb lo w2 566 (.int .i32 0))))))
    clear hS4 hF4 c0 c1 c2 hst hbn hix
    go_wp2_with fail
    exact HQ.out _ _ _ ⟨rfl, rfl, rfl⟩ hIA hS5 hF5
set_option maxRecDepth 100000 in
set_option maxHeartbeats 4000000 in
theorem round_op21 (hS : PSt Bb lo (.slice (some ⟨g, o, none⟩) n c) s w) (hn : 1 ≤ n) (hnc : n ≤ c) (hcb : c ≤ 9223372036854775807) (hb0 : w.cell? ⟨g, o, none⟩ = some (.int .u8 21)) {s' : PS} (hO : OpOk 43 (n - 1) s s')
    (hQ : ∀ t ins w', FxR Bb t → InsAt g (o + 1) (n - 1) ins → PSt Bb lo ins { s' with stk := [] } w' → PFrm Bb lo w w' → Q .normal ⟨t, []⟩ w') : Code.wp Tryz.prog bodyR Q ⟨frR Bb u, []⟩ w := by
  have h515 := hS.cell.2.1
  have f515 := hS.free 515
  have hIA := InsAt.cut (g := g) (o := o) (n := n) (c := c) (k := 1) hn hnc hcb
  have HQ := Lib.hid hQ
  have HO := Lib.hid hO
  clear hQ hO
  conv => arg 2; whnf
  unfold frR
  by_cases hck : c = 1
  · rw [if_pos hck] at hIA
    subst hck
    obtain rfl : n = 1 := by omega
    have hS1 := hS.setIns (.slice (some ⟨g, o, none⟩) 0 0)
    have hF1 := PFrm.set Bb lo w 515 (.slice (some ⟨g, o, none⟩) 0 0)
    go_wp2_with fail
    refine (pn_op hS (by omega) 21 (by omega) (by omega) (by omega) hb0).mono ?_
    rintro e w9 ⟨rfl, hw9⟩
    rw [hw9]
    clear hw9 w9
    go_upto_region 14 with (fail)
    generalize w.setCell ⟨Bb, 515, none⟩ (.slice (some ⟨g, o, none⟩) 0 0) = W at hS1 hF1 ⊢
    clear hb0 f515 h515
    go_wp2_with fail
    refine (tab_c W).mono ?_
    rintro e w1 ⟨rfl, hB1, hz1, cur, m, hT, hrow⟩
    obtain ⟨r0, r1, r2⟩ := hrow (21, #[114, 109, 111, 118, 101, 116, 111], 43) (by simp [tabRows])
    have c0 : w1.cell? ⟨W.heap.size + 5, 63, none⟩ = some (.int .i32 (-1)) := by rw [blk_cell hT]; exact r0
    have c1 : w1.cell? ⟨W.heap.size + 5, 64, none⟩ = some (.string ⟨#[114, 109, 111, 118, 101, 116, 111]⟩) := by rw [blk_cell hT]; exact r1
    have c2 : w1.cell? ⟨W.heap.size + 5, 65, none⟩ = some (.func (.func 43) #[] #[]) := by rw [blk_cell hT]; exact r2
    have hS2 := hS1.below hB1
    have hlt := hS2.lt
    have hF2 : PFrm Bb lo W w1 := ⟨hB1.os, hB1.tape, hB1.output, hB1.size, fun k hk _ _ => hB1.block k hk⟩
    have h5 : W.heap.size + 5 < w1.heap.size := by omega
    have hltW : Bb < w1.heap.size := by omega
    have h566 : w1.cell? ⟨Bb, 566, none⟩ = some (.int .i32 s.stk.length) := hS2.cell.2.2.1
    have hm0 : ∃ m0 : Nat, m0 = s.stk.length := ⟨_, rfl⟩
    obtain ⟨m0, hm0⟩ := hm0
    rw [← hm0] at h566
    clear hm0
    have hix : ∀ (a b : Option Addr) (W' : World), (Instr.index 119 (.agg #[.slice a 32 32, .slice b 37 37]) (.int .i64 0)).run Tryz.prog W' = .ok (.slice a 32 32) W' := fun _ _ _ => by kernel_rfl
    have hst : ∀ W' : World, W'.heap[w1.heap.size]? = some (.cells #[.int .i32 (-1), .string ⟨#[114, 109, 111, 118, 101, 116, 111]⟩, .nilFunc] 123 (0, 0)) → (store ⟨w1.heap.size, 2, none⟩ (.func (.func 43) #[] #[])).run Tryz.prog W' = .ok () (W'.setCell ⟨w1.heap.size, 2, none⟩ (.func (.func 43) #[] #[])) := fun W' h => by
      rw [run_store _ _ _ _ _ rfl, blk_cell h, blk_free h]
      rfl
    have hst := hst (w1.alloc _) (blk_new w1 _)
    have hbn : ∀ W' : World, (binOp .neq 121 (.func (.func 43) #[] #[]) .nilFunc).run Tryz.prog W' = .ok (.bool true) W' := fun _ => by kernel_rfl
    clear r0 r1 r2 hrow hT
    go_wp2_with fail
    refine wp_loop_rounds 1 ?_
    rw [rounds_succ]
    go_wp2_with (go_quiet (fail))
    refine (HO.out Bb lo _ _ _ ((hS2.alloc _).drewN nq)).mono ?_
    rintro e w2 ⟨rfl, hS4, hF4⟩
    have k0 : w2.cell? ⟨w1.heap.size, 0, none⟩ = some (.int .i32 (-1)) := by
      have hb := hF4.blk w1.heap.size (by simp) (by omega) (fun _ => isTy.ne (blk_new w1 _) (by decide))
      rw [blk_cell (hb.trans (blk_new w1 _))]; rfl
    have f566 := hS4.free 566
    obtain ⟨v566, h566⟩ := hS4.any (o := 566) (by decide)
    have hS5 : PSt Bb lo _ { s' with stk := [] } (w2.setCell ⟨Bb, 566, none⟩ (.int .i32 0)) := hS4.setTop 0 (Nat.zero_le _)
    have hF5 := hF1.trans (hF2.trans ((PFrm.alloc Bb lo w1 _).trans ((PFrm.drewN Bb lo _ nq).trans (hF4.trans (PFrm.set Bb lo w2 566 (.int .i32 0))))))
    clear hS4 hF4 c0 c1 c2 hst hbn hix
    go_wp2_with fail
    exact HQ.out _ _ _ ⟨rfl, rfl, rfl⟩ hIA hS5 hF5
  · rw [if_neg hck] at hIA
    have hS1 := hS.setIns (.slice (some ⟨g, o + 1, none⟩) (n - 1) (c - 1))
    have hF1 := PFrm.set Bb lo w 515 (.slice (some ⟨g, o + 1, none⟩) (n - 1) (c - 1))
    go_wp2_with fail
    refine (pn_op hS (by omega) 21 (by omega) (by omega) (by omega) hb0).mono ?_
    rintro e w9 ⟨rfl, hw9⟩
    rw [hw9]
    clear hw9 w9
    go_upto_region 14 with (fail)
    generalize w.setCell ⟨Bb, 515, none⟩ (.slice (some ⟨g, o + 1, none⟩) (n - 1) (c - 1)) = W at hS1 hF1 ⊢
    clear hb0 f515 h515
    go_wp2_with fail
    refine (tab_c W).mono ?_
    rintro e w1 ⟨rfl, hB1, hz1, cur, m, hT, hrow⟩
    obtain ⟨r0, r1, r2⟩ := hrow (21, #[114, 109, 111, 118, 101, 116, 111], 43) (by simp [tabRows])
    have c0 : w1.cell? ⟨W.heap.size + 5, 63, none⟩ = some (.int .i32 (-1)) := by rw [blk_cell hT]; exact r0
    have c1 : w1.cell? ⟨W.heap.size + 5, 64, none⟩ = some (.string ⟨#[114, 109, 111, 118, 101, 116, 111]⟩) := by rw [blk_cell hT]; exact r1
    have c2 : w1.cell? ⟨W.heap.size + 5, 65, none⟩ = some (.func (.func 43) #[] #[]) := by rw [blk_cell hT]; exact r2
    have hS2 := hS1.below hB1
    have hlt := hS2.lt
    have hF2 : PFrm Bb lo W w1 := ⟨hB1.os, hB1.tape, hB1.output, hB1.size, fun k hk _ _ => hB1.block k hk⟩
    have h5 : W.heap.size + 5 < w1.heap.size := by omega
    have hltW : Bb < w1.heap.size := by omega
    have h566 : w1.cell? ⟨Bb, 566, none⟩ = some (.int .i32 s.stk.length) := hS2.cell.2.2.1
    have hm0 : ∃ m0 : Nat, m0 = s.stk.length := ⟨_, rfl⟩
    obtain ⟨m0, hm0⟩ := hm0
    rw [← hm0] at h566
    clear hm0
    have hix : ∀ (a b : Option Addr) (W' : World), (Instr.index 119 (.agg #[.slice a 32 32, .slice b 37 37]) (.int .i64 0)).run Tryz.prog W' = .ok (.slice a 32 32) W' := fun _ _ _ => by kernel_rfl
    have hst : ∀ W' : World, W'.heap[w1.heap.size]? = some (.cells #[.int .i32 (-1), .string ⟨#[114, 109, 111, 118, 101, 116, 111]⟩, .nilFunc] 123 (0, 0)) → (store ⟨w1.heap.size, 2, none⟩ (.func (.func 43) #[] #[])).run Tryz.prog W' = .ok () (W'.setCell ⟨w1.heap.size, 2, none⟩ (.func (.func 43) #[] #[])) := fun W' h => by
      rw [run_store _ _ _ _ _ rfl, blk_cell h, blk_free h]
      rfl
    have hst := hst (w1.alloc _) (blk_new w1 _)
    have hbn : ∀ W' : World, (binOp .neq 121 (.func (.func 43) #[] #[]) .nilFunc).run Tryz.prog W' = .ok (.bool true) W' := fun _ => by kernel_rfl
    clear r0 r1 r2 hrow hT
    go_wp2_with fail
    refine wp_loop_rounds 1 ?_
    rw [rounds_succ]
    go_wp2_with (go_quiet (fail))
    refine (HO.out Bb lo _ _ _ ((hS2.alloc _).drewN nq)).mono ?_
    rintro e w2 ⟨rfl, hS4, hF4⟩
    have k0 : w2.cell? ⟨w1.heap.size, 0, none⟩ = some (.int .i32 (-1)) := by
      have hb := hF4.blk w1.heap.size (by simp) (by omega) (fun _ => isTy.ne (blk_new w1 _) (by decide))
      rw [blk_cell (hb.trans (blk_new w1 _))]; rfl
    have f566 := hS4.free 566
    obtain ⟨v566, h566⟩ := hS4.any (o := 566) (by decide)
    have hS5 : PSt Bb lo _ { s' with stk := [] } (w2.setCell ⟨Bb, 566, none⟩ (.int .i32 0)) := hS4.setTop 0 (Nat.zero_le _)
    have hF5 := hF1.trans (hF2.trans ((PFrm.alloc Bb lo w1 _).trans ((PFrm.drewN Bb lo _ nq).trans (hF4.trans (PFrm.set Bb lo w2 566 (.int .i32 0))))))
    clear hS4 hF4 c0 c1 c2 hst hbn hix
    go_wp2_with fail
    exact HQ.out _ _ _ ⟨rfl, rfl, rfl⟩ hIA hS5 hF5
set_option maxRecDepth 100000 in
set_option maxHeartbeats 4000000 in
theorem round_op22 (hS : PSt Bb lo (.slice (some ⟨g, o, none⟩) n c) s w) (hn : 1 ≤ n) (hnc : n ≤ c) (hcb : c ≤ 9223372036854775807) (hb0 : w.cell? ⟨g, o, none⟩ = some (.int .u8 22)) {s' : PS} (hO : OpOk 44 (n - 1) s s')
    (hQ : ∀ t ins w', FxR Bb t → InsAt g (o + 1) (n - 1) ins → PSt Bb lo ins { s' with stk := [] } w' → PFrm Bb lo w w' → Q .normal ⟨t, []⟩ w') : Code.wp Tryz.prog bodyR Q ⟨frR Bb u, []⟩ w := by
  have h515 := hS.cell.2.1
  have f515 := hS.free 515
  have hIA := InsAt.cut (g := g) (o := o) (n := n) (c := c) (k := 1) hn hnc hcb
  have HQ := Lib.hid hQ
  have HO := Lib.hid hO
  clear hQ hO
  conv => arg 2; whnf
  unfold frR
  by_cases hck : c = 1
  · rw [if_pos hck] at hIA
    subst hck
    obtain rfl : n = 1 := by omega
    have hS1 := hS.setIns (.slice (some ⟨g, o, none⟩) 0 0)
    have hF1 := PFrm.set Bb lo w 515 (.slice (some ⟨g, o, none⟩) 0 0)
    go_wp2_with fail
    refine (pn_op hS (by omega) 22 (by omega) (by omega) (by omega) hb0).mono ?_
    rintro e w9 ⟨rfl, hw9⟩
    rw [hw9]
    clear hw9 w9
    go_upto_region 14 with (fail)
    generalize w.setCell ⟨Bb, 515, none⟩ (.slice (some ⟨g, o, none⟩) 0 0) = W at hS1 hF1 ⊢
    clear hb0 f515 h515
    go_wp2_with fail
    refine (tab_c W).mono ?_
    rintro e w1 ⟨rfl, hB1, hz1, cur, m, hT, hrow⟩
    obtain ⟨r0, r1, r2⟩ := hrow (22, #[104, 109, 111, 118, 101, 116, 111], 44) (by simp [tabRows])
    have c0 : w1.cell? ⟨W.heap.size + 5, 66, none⟩ = some (.int .i32 (-1)) := by rw [blk_cell hT]; exact r0
    have c1 : w1.cell? ⟨W.heap.size + 5, 67, none⟩ = some (.string ⟨#[104, 109, 111, 118, 101, 116, 111]⟩) := by rw [blk_cell hT]; exact r1
    have c2 : w1.cell? ⟨W.heap.size + 5, 68, none⟩ = some (.func (.func 44) #[] #[]) := by rw [blk_cell hT]; exact r2
    have hS2 := hS1.below hB1
    have hlt := hS2.lt
    have hF2 : PFrm Bb lo W w1 := ⟨hB1.os, hB1.tape, hB1.output, hB1.size, fun k hk _ _ => hB1.block k hk⟩
    have h5 : W.heap.size + 5 < w1.heap.size := by omega
    have hltW : Bb < w1.heap.size := by omega
    have h566 : w1.cell? ⟨Bb, 566, none⟩ = some (.int .i32 s.stk.length) := hS2.cell.2.2.1
    have hm0 : ∃ m0 : Nat, m0 = s.stk.length := ⟨_, rfl⟩
    obtain ⟨m0, hm0⟩ := hm0
    rw [← hm0] at h566
    clear hm0
    have hix : ∀ (a b : Option Addr) (W' : World), (Instr.index 119 (.agg #[.slice a 32 32, .slice b 37 37]) (.int .i64 0)).run Tryz.prog W' = .ok (.slice a 32 32) W' := fun _ _ _ => by kernel_rfl
    have hst : ∀ W' : World, W'.heap[w1.heap.size]? = some (.cells #[.int .i32 (-1), .string ⟨#[104, 109, 111, 118, 101, 116, 111]⟩, .nilFunc] 123 (0, 0)) → (store ⟨w1.heap.size, 2, none⟩ (.func (.func 44) #[] #[])).run Tryz.prog W' = .ok () (W'.setCell ⟨w1.heap.size, 2, none⟩ (.func (.func 44) #[] #[])) := fun W' h => by
      rw [run_store _ _ _ _ _ rfl, blk_cell h, blk_free h]
      rfl
    have hst := hst (w1.alloc _) (blk_new w1 _)
    have hbn : ∀ W' : World, (binOp .neq 121 (.func (.func 44) #[] #[]) .nilFunc).run Tryz.prog W' = .ok (.bool true) W' := fun _ => by kernel_rfl
    clear r0 r1 r2 hrow hT
    go_wp2_with fail
    refine wp_loop_rounds 1 ?_
    rw [rounds_succ]
    go_wp2_with (go_quiet (fail))
    refine (HO.out Bb lo _ _ _ ((hS2.alloc _).drewN nq)).mono ?_
    rintro e w2 ⟨rfl, hS4, hF4⟩
    have k0 : w2.cell? ⟨w1.heap.size, 0, none⟩ = some (.int .i32 (-1)) := by
      have hb := hF4.blk w1.heap.size (by simp) (by omega) (fun _ => isTy.ne (blk_new w1 _) (by decide))
      rw [blk_cell (hb.trans (blk_new w1 _))]; rfl
    have f566 := hS4.free 566
    obtain ⟨v566, h566⟩ := hS4.any (o := 566) (by decide)
    have hS5 : PSt Bb lo _ { s' with stk := [] } (w2.setCell ⟨Bb, 566, none⟩ (.int .i32 0)) := hS4.setTop 0 (Nat.zero_le _)
    have hF5 := hF1.trans (hF2.trans ((PFrm.alloc Bb lo w1 _).trans ((PFrm.drewN Bb lo _ nq).trans (hF4.trans (PFrm.set Bb lo w2 566 (.int .i32 0))))))
    clear hS4 hF4 c0 c1 c2 hst hbn hix
    go_wp2_with fail
    exact HQ.out _ _ _ ⟨rfl, rfl, rfl⟩ hIA hS5 hF5
  · rw [if_neg hck] at hIA
    have hS1 := hS.setIns (.slice (some ⟨g, o + 1, none⟩) (n - 1) (c - 1))
    have hF1 := PFrm.set Bb lo w 515 (.slice (some ⟨g, o + 1, none⟩) (n - 1) (c - 1))
    go_wp2_with fail
    refine (pn_op hS (by omega) 22 (by omega) (by omega) (by omega) hb0).mono ?_
    rintro e w9 ⟨rfl, hw9⟩
    rw [hw9]
    clear hw9 w9
    go_upto_region 14 with (fail)
    generalize w.setCell ⟨Bb, 515, none⟩ (.slice (some ⟨g, o + 1, none⟩) (n - 1) (c - 1)) = W at hS1 hF1 ⊢
    clear hb0 f515 h515
    go_wp2_with fail
    refine (tab_c W).mono ?_
    rintro e w1 ⟨rfl, hB1, hz1, cur, m, hT, hrow⟩
    obtain ⟨r0, r1, r2⟩ := hrow (22, #[104, 109, 111, 118, 101, 116, 111], 44) (by simp [tabRows])
    have c0 : w1.cell? ⟨W.heap.size + 5, 66, none⟩ = some (.int .i32 (-1)) := by rw [blk_cell hT]; exact r0
    have c1 : w1.cell? ⟨W.heap.size + 5, 67, none⟩ = some (.string ⟨#[104, 109, 111, 118, 101, 116, 111]⟩) := by rw [blk_cell hT]; exact r1
    have c2 : w1.cell? ⟨W.heap.size + 5, 68, none⟩ = some (.func (.func 44) #[] #[]) := by rw [blk_cell hT]; exact r2
    have hS2 := hS1.below hB1
    have hlt := hS2.lt
    have hF2 : PFrm Bb lo W w1 := ⟨hB1.os, hB1.tape, hB1.output, hB1.size, fun k hk _ _ => hB1.block k hk⟩
    have h5 : W.heap.size + 5 < w1.heap.size := by omega
    have hltW : Bb < w1.heap.size := by omega
    have h566 : w1.cell? ⟨Bb, 566, none⟩ = some (.int .i32 s.stk.length) := hS2.cell.2.2.1
    have hm0 : ∃ m0 : Nat, m0 = s.stk.length := ⟨_, rfl⟩
    obtain ⟨m0, hm0⟩ := hm0
    rw [← hm0] at h566
    clear hm0
    have hix : ∀ (a b : Option Addr) (W' : World), (Instr.index 119 (.agg #[.slice a 32 32, .slice b 37 37]) (.int .i64 0)).run Tryz.prog W' = .ok (.slice a 32 32) W' := fun _ _ _ => by kernel_rfl
    have hst : ∀ W' : World, W'.heap[w1.heap.size]? = some (.cells #[.int .i32 (-1), .string ⟨#[104, 109, 111, 118, 101, 116, 111]⟩, .nilFunc] 123 (0, 0)) → (store ⟨w1.heap.size, 2, none⟩ (.func (.func 44) #[] #[])).run Tryz.prog W' = .ok () (W'.setCell ⟨w1.heap.size, 2, none⟩ (.func (.func 44) #[] #[])) := fun W' h => by
      rw [run_store _ _ _ _ _ rfl, blk_cell h, blk_free h]
      rfl
    have hst := hst (w1.alloc _) (blk_new w1 _)
    have hbn : ∀ W' : World, (binOp .neq 121 (.func (.func 44) #[] #[]) .nilFunc).run Tryz.prog W' = .ok (.bool true) W' := fun _ => by kernel_rfl
    clear r0 r1 r2 hrow hT
    go_wp2_with fail
    refine wp_loop_rounds 1 ?_
    rw [rounds_succ]
    go_wp2_with (go_quiet (fail))
    refine (HO.out Bb lo _ _ _ ((hS2.alloc _).drewN nq)).mono ?_
    rintro e w2 ⟨rfl, hS4, hF4⟩
    have k0 : w2.cell? ⟨w1.heap.size, 0, none⟩ = some (.int .i32 (-1)) := by
      have hb := hF4.blk w1.heap.size (by simp) (by omega) (fun _ => isTy.ne (blk_new w1 _) (by decide))
      rw [blk_cell (hb.trans (blk_new w1 _))]; rfl
    have f566 := hS4.free 566
    obtain ⟨v566, h566⟩ := hS4.any (o := 566) (by decide)
    have hS5 : PSt Bb lo _ { s' with stk := [] } (w2.setCell ⟨Bb, 566, none⟩ (.int .i32 0)) := hS4.setTop 0 (Nat.zero_le _)
    have hF5 := hF1.trans (hF2.trans ((PFrm.alloc Bb lo w1 _).trans ((PFrm.drewN Bb lo _ nq).trans (hF4.trans (PFrm.set Bb lo w2 566 (.int .i32 0))))))
    clear hS4 hF4 c0 c1 c2 hst hbn hix
    go_wp2_with fail
    exact HQ.out _ _ _ ⟨rfl, rfl, rfl⟩ hIA hS5 hF5
set_option maxRecDepth 100000 in
set_option maxHeartbeats 4000000 in
theorem round_op24 (hS : PSt Bb lo (.slice (some ⟨g, o, none⟩) n c) s w) (hn : 1 ≤ n) (hnc : n ≤ c) (hcb : c ≤ 9223372036854775807) (hb0 : w.cell? ⟨g, o, none⟩ = some (.int .u8 24)) {s' : PS} (hO : OpOk 45 (n - 1) s s')
    (hQ : ∀ t ins w', FxR Bb t → InsAt g (o + 1) (n - 1) ins → PSt Bb lo ins { s' with stk := [] } w' → PFrm Bb lo w w' → Q .normal ⟨t, []⟩ w') : Code.wp Tryz.prog bodyR Q ⟨frR Bb u, []⟩ w := by
  have h515 := hS.cell.2.1
  have f515 := hS.free 515
  have hIA := InsAt.cut (g := g) (o := o) (n := n) (c := c) (k := 1) hn hnc hcb
  have HQ := Lib.hid hQ
  have HO := Lib.hid hO
  clear hQ hO
  conv => arg 2; whnf
  unfold frR
  by_cases hck : c = 1
  · rw [if_pos hck] at hIA
    subst hck
    obtain rfl : n = 1 := by omega
    have hS1 := hS.setIns (.slice (some ⟨g, o, none⟩) 0 0)
    have hF1 := PFrm.set Bb lo w 515 (.slice (some ⟨g, o, none⟩) 0 0)
    go_wp2_with fail
    refine (pn_op hS (by omega) 24 (by omega) (by omega) (by omega) hb0).mono ?_
    rintro e w9 ⟨rfl, hw9⟩
    rw [hw9]
    clear hw9 w9
    go_upto_region 14 with (fail)
    generalize w.setCell ⟨Bb, 515, none⟩ (.slice (some ⟨g, o, none⟩) 0 0) = W at hS1 hF1 ⊢
    clear hb0 f515 h515
    go_wp2_with fail
    refine (tab_c W).mono ?_
    rintro e w1 ⟨rfl, hB1, hz1, cur, m, hT, hrow⟩
    obtain ⟨r0, r1, r2⟩ := hrow (24, #[114, 99, 117, 114, 118, 101, 108, 105, 110, 101], 45) (by simp [tabRows])
    have c0 : w1.cell? ⟨W.heap.size + 5, 72, none⟩ = some (.int .i32 (-1)) := by rw [blk_cell hT]; exact r0
    have c1 : w1.cell? ⟨W.heap.size + 5, 73, none⟩ = some (.string ⟨#[114, 99, 117, 114, 118, 101, 108, 105, 110, 101]⟩) := by rw [blk_cell hT]; exact r1
    have c2 : w1.cell? ⟨W.heap.size + 5, 74, none⟩ = some (.func (.func 45) #[] #[]) := by rw [blk_cell hT]; exact r2
    have hS2 := hS1.below hB1
    have hlt := hS2.lt
    have hF2 : PFrm Bb lo W w1 := ⟨hB1.os, hB1.tape, hB1.output, hB1.size, fun k hk _ _ => hB1.block k hk⟩
    have h5 : W.heap.size + 5 < w1.heap.size := by omega
    have hltW : Bb < w1.heap.size := by omega
    have h566 : w1.cell? ⟨Bb, 566, none⟩ = some (.int .i32 s.stk.length) := hS2.cell.2.2.1
    have hm0 : ∃ m0 : Nat, m0 = s.stk.length := ⟨_, rfl⟩
    obtain ⟨m0, hm0⟩ := hm0
    rw [← hm0] at h566
    clear hm0
    have hix : ∀ (a b : Option Addr) (W' : World), (Instr.index 119 (.agg #[.slice a 32 32, .slice b 37 37]) (.int .i64 0)).run Tryz.prog W' = .ok (.slice a 32 32) W' := fun _ _ _ => by kernel_rfl
    have hst : ∀ W' : World, W'.heap[w1.heap.size]? = some (.cells #[.int .i32 (-1), .string ⟨#[114, 99, 117, 114, 118, 101, 108, 105, 110, 101]⟩, .nilFunc] 123 (0, 0)) → (store ⟨w1.heap.size, 2, none⟩ (.func (.func 45) #[] #[])).run Tryz.prog W' = .ok () (W'.setCell ⟨w1.heap.size, 2, none⟩ (.func (.func 45) #[] #[])) := fun W' h => by
      rw [run_store _ _ _ _ _ rfl, blk_cell h, blk_free h]
      rfl
    have hst := hst (w1.alloc _) (blk_new w1 _)
    have hbn : ∀ W' : World, (binOp .neq 121 (.func (.func 45) #[] #[]) .nilFunc).run Tryz.prog W' = .ok (.bool true) W' := fun _ => by kernel_rfl
    clear r0 r1 r2 hrow hT
    go_wp2_with fail
    refine wp_loop_rounds 1 ?_
    rw [rounds_succ]
    go_wp2_with (go_quiet (fail))
    refine (HO.out Bb lo _ _ _ ((hS2.alloc _).drewN nq)).mono ?_
    rintro e w2 ⟨rfl, hS4, hF4⟩
    have k0 : w2.cell? ⟨w1.heap.size, 0, none⟩ = some (.int .i32 (-1)) := by
      have hb := hF4.blk w1.heap.size (by simp) (by omega) (fun _ => isTy.ne (blk_new w1 _) (by decide))
      rw [blk_cell (hb.trans (blk_new w1 _))]; rfl
    have f566 := hS4.free 566
    obtain ⟨v566, h566⟩ := hS4.any (o := 566) (by decide)
    have hS5 : PSt Bb lo _ { s' with stk := [] } (w2.setCell ⟨Bb, 566, none⟩ (.int .i32 0)) := hS4.setTop 0 (Nat.zero_le _)
    have hF5 := hF1.trans (hF2.trans ((PFrm.alloc Bb lo w1 _).trans ((PFrm.drewN Bb lo _ nq).trans (hF4.trans (PFrm.set Bb lo w2 566 (.int .i32 0))))))
    clear hS4 hF4 c0 c1 c2 hst hbn hix
    go_wp2_with fail
    exact HQ.out _ _ _ ⟨rfl, rfl, rfl⟩ hIA hS5 hF5
  · rw [if_neg hck] at hIA
    have hS1 := hS.setIns (.slice (some ⟨g, o + 1, none⟩) (n - 1) (c - 1))
    have hF1 := PFrm.set Bb lo w 515 (.slice (some ⟨g, o + 1, none⟩) (n - 1) (c - 1))
    go_wp2_with fail
    refine (pn_op hS (by omega) 24 (by omega) (by omega) (by omega) hb0).mono ?_
    rintro e w9 ⟨rfl, hw9⟩
    rw [hw9]
    clear hw9 w9
    go_upto_region 14 with (fail)
    generalize w.setCell ⟨Bb, 515, none⟩ (.slice (some ⟨g, o + 1, none⟩) (n - 1) (c - 1)) = W at hS1 hF1 ⊢
    clear hb0 f515 h515
    go_wp2_with fail
    refine (tab_c W).mono ?_
    rintro e w1 ⟨rfl, hB1, hz1, cur, m, hT, hrow⟩
    obtain ⟨r0, r1, r2⟩ := hrow (24, #[114, 99, 117, 114, 118, 101, 108, 105, 110, 101], 45) (by simp [tabRows])
    have c0 : w1.cell? ⟨W.heap.size + 5, 72, none⟩ = some (.int .i32 (-1)) := by rw [blk_cell hT]; exact r0
    have c1 : w1.cell? ⟨W.heap.size + 5, 73, none⟩ = some (.string ⟨#[114, 99, 117, 114, 118, 101, 108, 105, 110, 101]⟩) := by rw [blk_cell hT]; exact r1
    have c2 : w1.cell? ⟨W.heap.size + 5, 74, none⟩ = some (.func (.func 45) #[] #[]) := by rw [blk_cell hT]; exact r2
    have hS2 := hS1.below hB1
    have hlt := hS2.lt
    have hF2 : PFrm Bb lo W w1 := ⟨hB1.os, hB1.tape, hB1.output, hB1.size, fun k hk _ _ => hB1.block k hk⟩
    have h5 : W.heap.size + 5 < w1.heap.size := by omega
    have hltW : Bb < w1.heap.size := by omega
    have h566 : w1.cell? ⟨Bb, 566, none⟩ = some (.int .i32 s.stk.length) := hS2.cell.2.2.1
    have hm0 : ∃ m0 : Nat, m0 = s.stk.length := ⟨_, rfl⟩
    obtain ⟨m0, hm0⟩ := hm0
    rw [← hm0] at h566
    clear hm0
    have hix : ∀ (a b : Option Addr) (W' : World), (Instr.index 119 (.agg #[.slice a 32 32, .slice b 37 37]) (.int .i64 0)).run Tryz.prog W' = .ok (.slice a 32 32) W' := fun _ _ _ => by kernel_rfl
    have hst : ∀ W' : World, W'.heap[w1.heap.size]? = some (.cells #[.int .i32 (-1), .string ⟨#[114, 99, 117, 114, 118, 101, 108, 105, 110, 101]⟩, .nilFunc] 123 (0, 0)) → (store ⟨w1.heap.size, 2, none⟩ (.func (.func 45) #[] #[])).run Tryz.prog W' = .ok () (W'.setCell ⟨w1.heap.size, 2, none⟩ (.func (.func 45) #[] #[])) := fun W' h => by
      rw [run_store _ _ _ _ _ rfl, blk_cell h, blk_free h]
      rfl
    have hst := hst (w1.alloc _) (blk_new w1 _)
    have hbn : ∀ W' : World, (binOp .neq 121 (.func (.func 45) #[] #[]) .nilFunc).run Tryz.prog W' = .ok (.bool true) W' := fun _ => by kernel_rfl
    clear r0 r1 r2 hrow hT
    go_wp2_with fail
    refine wp_loop_rounds 1 ?_
    rw [rounds_succ]
    go_wp2_with (go_quiet (fail))
    refine (HO.out Bb lo _ _ _ ((hS2.alloc _).drewN nq)).mono ?_
    rintro e w2 ⟨rfl, hS4, hF4⟩
    have k0 : w2.cell? ⟨w1.heap.size, 0, none⟩ = some (.int .i32 (-1)) := by
      have hb := hF4.blk w1.heap.size (by simp) (by omega) (fun _ => isTy.ne (blk_new w1 _) (by decide))
      rw [blk_cell (hb.trans (blk_new w1 _))]; rfl
    have f566 := hS4.free 566
    obtain ⟨v566, h566⟩ := hS4.any (o := 566) (by decide)
    have hS5 : PSt Bb lo _ { s' with stk := [] } (w2.setCell ⟨Bb, 566, none⟩ (.int .i32 0)) := hS4.setTop 0 (Nat.zero_le _)
    have hF5 := hF1.trans (hF2.trans ((PFrm.alloc Bb lo w1 _).trans ((PFrm.drewN Bb lo _ nq).trans (hF4.trans (PFrm.set Bb lo w2 566 (.int .i32 0))))))
    clear hS4 hF4 c0 c1 c2 hst hbn hix
    go_wp2_with fail
    exact HQ.out _ _ _ ⟨rfl, rfl, rfl⟩ hIA hS5 hF5
set_option maxRecDepth 100000 in
set_option maxHeartbeats 4000000 in
theorem round_op25 (hS : PSt Bb lo (.slice (some ⟨g, o, none⟩) n c) s w) (hn : 1 ≤ n) (hnc : n ≤ c) (hcb : c ≤ 9223372036854775807) (hb0 : w.cell? ⟨g, o, none⟩ = some (.int .u8 25)) {s' : PS} (hO : OpOk 46 (n - 1) s s')
    (hQ : ∀ t ins w', FxR Bb t → InsAt g (o + 1) (n - 1) ins → PSt Bb lo ins { s' with stk := [] } w' → PFrm Bb lo w w' → Q .normal ⟨t, []⟩ w') : Code.wp Tryz.prog bodyR Q ⟨frR Bb u, []⟩ w := by
  have h515 := hS.cell.2.1
  have f515 := hS.free 515
  have hIA := InsAt.cut (g := g) (o := o) (n := n) (c := c) (k := 1) hn hnc hcb
  have HQ := Lib.hid hQ
  have HO := Lib.hid hO
  clear hQ hO
  conv => arg 2; whnf
  unfold frR
  by_cases hck : c = 1
  · rw [if_pos hck] at hIA
    subst hck
    obtain rfl : n = 1 := by omega
    have hS1 := hS.setIns (.slice (some ⟨g, o, none⟩) 0 0)
    have hF1 := PFrm.set Bb lo w 515 (.slice (some ⟨g, o, none⟩) 0 0)
    go_wp2_with fail
    refine (pn_op hS (by omega) 25 (by omega) (by omega) (by omega) hb0).mono ?_
    rintro e w9 ⟨rfl, hw9⟩
    rw [hw9]
    clear hw9 w9
    go_upto_region 14 with (fail)
    generalize w.setCell ⟨Bb, 515, none⟩ (.slice (some ⟨g, o, none⟩) 0 0) = W at hS1 hF1 ⊢
    clear hb0 f515 h515
    go_wp2_with fail
    refine (tab_c W).mono ?_
    rintro e w1 ⟨rfl, hB1, hz1, cur, m, hT, hrow⟩
    obtain ⟨r0, r1, r2⟩ := hrow (25, #[114, 108, 105, 110, 101, 99, 117, 114, 118, 101], 46) (by simp [tabRows])
    have c0 : w1.cell? ⟨W.heap.size + 5, 75, none⟩ = some (.int .i32 (-1)) := by rw [blk_cell hT]; exact r0
    have c1 : w1.cell? ⟨W.heap.size + 5, 76, none⟩ = some (.string ⟨#[114, 108, 105, 110, 101, 99, 117, 114, 118, 101]⟩) := by rw [blk_cell hT]; exact r1
    have c2 : w1.cell? ⟨W.heap.size + 5, 77, none⟩ = some (.func (.func 46) #[] #[]) := by rw [blk_cell hT]; exact r2
    have hS2 := hS1.below hB1
    have hlt := hS2.lt
    have hF2 : PFrm Bb lo W w1 := ⟨hB1.os, hB1.tape, hB1.output, hB1.size, fun k hk _ _ => hB1.block k hk⟩
    have h5 : W.heap.size + 5 < w1.heap.size := by omega
    have hltW : Bb < w1.heap.size := by omega
    have h566 : w1.cell? ⟨Bb, 566, none⟩ = some (.int .i32 s.stk.length) := hS2.cell.2.2.1
    have hm0 : ∃ m0 : Nat, m0 = s.stk.length := ⟨_, rfl⟩
    obtain ⟨m0, hm0⟩ := hm0
    rw [← hm0] at h566
    clear hm0
    have hix : ∀ (a b : Option Addr) (W' : World), (Instr.index 119 (.agg #[.slice a 32 32, .slice b 37 37]) (.int .i64 0)).run Tryz.prog W' = .ok (.slice a 32 32) W' := fun _ _ _ => by kernel_rfl
    have hst : ∀ W' : World, W'.heap[w1.heap.size]? = some (.cells #[.int .i32 (-1), .string ⟨#[114, 108, 105, 110, 101, 99, 117, 114, 118, 101]⟩, .nilFunc] 123 (0, 0)) → (store ⟨w1.heap.size, 2, none⟩ (.func (.func 46) #[] #[])).run Tryz.prog W' = .ok () (W'.setCell ⟨w1.heap.size, 2, none⟩ (.func (.func 46) #[] #[])) := fun W' h => by
      rw [run_store _ _ _ _ _ rfl, blk_cell h, blk_free h]
      rfl
    have hst := hst (w1.alloc _) (blk_new w1 _)
    have hbn : ∀ W' : World, (binOp .neq 121 (.func (.func 46) #[] #[]) .nilFunc).run Tryz.prog W' = .ok (.bool true) W' := fun _ => by kernel_rfl
    clear r0 r1 r2 hrow hT
    go_wp2_with fail
    refine wp_loop_rounds 1 ?_
    rw [rounds_succ]
    go_wp2_with (go_quiet (fail))
    refine (HO.out Bb lo _ _ _ ((hS2.alloc _).drewN nq)).mono ?_
    rintro e w2 ⟨rfl, hS4, hF4⟩
    have k0 : w2.cell? ⟨w1.heap.size, 0, none⟩ = some (.int .i32 (-1)) := by
      have hb := hF4.blk w1.heap.size (by simp) (by omega) (fun _ => isTy.ne (blk_new w1 _) (by decide))
      rw [blk_cell (hb.trans (blk_new w1 _))]; rfl
    have f566 := hS4.free 566
    obtain ⟨v566, h566⟩ := hS4.any (o := 566) (by decide)
    have hS5 : PSt Bb lo _ { s' with stk := [] } (w2.setCell ⟨Bb, 566, none⟩ (.int .i32 0)) := hS4.setTop 0 (Nat.zero_le _)
    have hF5 := hF1.trans (hF2.trans ((PFrm.alloc Bb lo w1 _).trans ((PFrm.drewN Bb lo _ nq).trans (hF4.trans (PFrm.set Bb lo w2 566 (.int .i32 0))))))
    clear hS4 hF4 c0 c1 c2 hst hbn hix
    go_wp2_with fail
    exact HQ.out _ _ _ ⟨rfl, rfl, rfl⟩ hIA hS5 hF5
  · rw [if_neg hck] at hIA
    have hS1 := hS.setIns (.slice (some ⟨g, o + 1, none⟩) (n - 1) (c - 1))
    have hF1 := PFrm.set Bb lo w 515 (.slice (some ⟨g, o + 1, none⟩) (n - 1) (c - 1))
    go_wp2_with fail
    refine (pn_op hS (by omega) 25 (by omega) (by omega) (by omega) hb0).mono ?_
    rintro e w9 ⟨rfl, hw9⟩
    rw [hw9]
    clear hw9 w9
    go_upto_region 14 with (fail)
    generalize w.setCell ⟨Bb, 515, none⟩ (.slice (some ⟨g, o + 1, none⟩) (n - 1) (c - 1)) = W at hS1 hF1 ⊢
    clear hb0 f515 h515
    go_wp2_with fail
    refine (tab_c W).mono ?_
    rintro e w1 ⟨rfl, hB1, hz1, cur, m, hT, hrow⟩
    obtain ⟨r0, r1, r2⟩ := hrow (25, #[114, 108, 105, 110, 101, 99, 117, 114, 118, 101], 46) (by simp [tabRows])
    have c0 : w1.cell? ⟨W.heap.size + 5, 75, none⟩ = some (.int .i32 (-1)) := by rw [blk_cell hT]; exact r0
    have c1 : w1.cell? ⟨W.heap.size + 5, 76, none⟩ = some (.string ⟨#[114, 108, 105, 110, 101, 99, 117, 114, 118, 101]⟩) := by rw [blk_cell hT]; exact r1
    have c2 : w1.cell? ⟨W.heap.size + 5, 77, none⟩ = some (.func (.func 46) #[] #[]) := by rw [blk_cell hT]; exact r2
    have hS2 := hS1.below hB1
    have hlt := hS2.lt
    have hF2 : PFrm Bb lo W w1 := ⟨hB1.os, hB1.tape, hB1.output, hB1.size, fun k hk _ _ => hB1.block k hk⟩
    have h5 : W.heap.size + 5 < w1.heap.size := by omega
    have hltW : Bb < w1.heap.size := by omega
    have h566 : w1.cell? ⟨Bb, 566, none⟩ = some (.int .i32 s.stk.length) := hS2.cell.2.2.1
    have hm0 : ∃ m0 : Nat, m0 = s.stk.length := ⟨_, rfl⟩
    obtain ⟨m0, hm0⟩ := hm0
    rw [← hm0] at h566
    clear hm0
    have hix : ∀ (a b : Option Addr) (W' : World), (Instr.index 119 (.agg #[.slice a 32 32, .slice b 37 37]) (.int .i64 0)).run Tryz.prog W' = .ok (.slice a 32 32) W' := fun _ _ _ => by kernel_rfl
    have hst : ∀ W' : World, W'.heap[w1.heap.size]? = some (.cells #[.int .i32 (-1), .string ⟨#[114, 108, 105, 110, 101, 99, 117, 114, 118, 101]⟩, .nilFunc] 123 (0, 0)) → (store ⟨w1.heap.size, 2, none⟩ (.func (.func 46) #[] #[])).run Tryz.prog W' = .ok () (W'.setCell ⟨w1.heap.size, 2, none⟩ (.func (.func 46) #[] #[])) := fun W' h => by
      rw [run_store _ _ _ _ _ rfl, blk_cell h, blk_free h]
      rfl
    have hst := hst (w1.alloc _) (blk_new w1 _)
    have hbn : ∀ W' : World, (binOp .neq 121 (.func (.func 46) #[] #[]) .nilFunc).run Tryz.prog W' = .ok (.bool true) W' := fun _ => by kernel_rfl
    clear r0 r1 r2 hrow hT
    go_wp2_with fail
    refine wp_loop_rounds 1 ?_
    rw [rounds_succ]
    go_wp2_with (go_quiet (fail))
    refine (HO.out Bb lo _ _ _ ((hS2.alloc _).drewN nq)).mono ?_
    rintro e w2 ⟨rfl, hS4, hF4⟩
    have k0 : w2.cell? ⟨w1.heap.size, 0, none⟩ = some (.int .i32 (-1)) := by
      have hb := hF4.blk w1.heap.size (by simp) (by omega) (fun _ => isTy.ne (blk_new w1 _) (by decide))
      rw [blk_cell (hb.trans (blk_new w1 _))]; rfl
    have f566 := hS4.free 566
    obtain ⟨v566, h566⟩ := hS4.any (o := 566) (by decide)
    have hS5 : PSt Bb lo _ { s' with stk := [] } (w2.setCell ⟨Bb, 566, none⟩ (.int .i32 0)) := hS4.setTop 0 (Nat.zero_le _)
    have hF5 := hF1.trans (hF2.trans ((PFrm.alloc Bb lo w1 _).trans ((PFrm.drewN Bb lo _ nq).trans (hF4.trans (PFrm.set Bb lo w2 566 (.int .i32 0))))))
    clear hS4 hF4 c0 c1 c2 hst hbn hix
    go_wp2_with fail
    exact HQ.out _ _ _ ⟨rfl, rfl, rfl⟩ hIA hS5 hF5
end
end Go.Proofs.YtoanpkfekhkaoaaGreatDoor
