/-
  The contracts of initialize and of ZZCharstring. Conditions: as in the text before it.
-/
import Derived.Test.YtoanpkfekhkaoaaGreatDoorIntN
import Derived.Deep.Cut
import Derived.OwnWalk
namespace Go.Proofs.YtoanpkfekhkaoaaGreatDoor
open Go Go.RowKit
section
variable {Bb lo : Nat} {ins : Value} {w : World}
theorem own_nil (w : World) (lo : Nat) : w.ownsRow lo 112 7 (.slice none 0 0) 0 (segCs []) := World.ownsRow_nil _ _ _ _
theorem PSt.start {cur : Array Value} {lv : Int} (h : w.heap[Bb]? = some (.cells cur 103 (0, 0))) (hsz : cur.size = 670) (c1 : cur[1]? = some (.slice none 0 0)) (c660 : cur[660]? = some (.pointer (some ⟨Bb, 0, none⟩)))
    (c661 : cur[661]? = some (.int .i32 0)) (c662 : cur[662]? = some (.int .i32 0)) (c663 : cur[663]? = some (.int .i32 0)) (c664 : cur[664]? = some (.int .i32 0)) (c666 : cur[666]? = some (.bool false)) (c667 : cur[667]? = some (.bool false)) (hlo : lo ≤ Bb) :
    PSt Bb lo ins initP ((((((w.setCell ⟨Bb, 514, none⟩ (.int .u32 2)).setCell ⟨Bb, 515, none⟩ ins).setCell ⟨Bb, 516, none⟩ (.int .u32 0)).setCell ⟨Bb, 517, none⟩ (.int .u32 lv)).setCell ⟨Bb, 566, none⟩ (.int .i32 0)).setCell ⟨Bb, 587, none⟩ (.int .i32 0)) := by
  refine ⟨⟨_, blk_set (blk_set (blk_set (blk_set (blk_set (blk_set h 514 _) 515 _) 516 _) 517 _) 566 _) 587 _, ?_, .slice none 0 0, ?_, own_nil _ _⟩, hlo⟩
  · exact ⟨by simp [hsz], by simp [Array.getElem?_setIfInBounds, hsz], by simp [Array.getElem?_setIfInBounds, hsz], by simp [Array.getElem?_setIfInBounds, hsz, initP], fun i v hv => by simp [initP] at hv, by simp [Array.getElem?_setIfInBounds, hsz],
      by simp [Array.getElem?_setIfInBounds, c660], by simp [Array.getElem?_setIfInBounds, c661, initP], by simp [Array.getElem?_setIfInBounds, c662, initP], by simp [Array.getElem?_setIfInBounds, c663, initP], by simp [Array.getElem?_setIfInBounds, c664, initP],
      by simp [Array.getElem?_setIfInBounds, c666, initP], by simp [Array.getElem?_setIfInBounds, c667, initP], by simp [initP]⟩
  · simp [Array.getElem?_setIfInBounds, c1]

attribute [local go_sem ↓] Go.wp_at_zero Go.wp_at_succ
set_option maxRecDepth 100000 in
set_option maxHeartbeats 4000000 in
theorem init_c {cur : Array Value} (h : w.heap[Bb]? = some (.cells cur 103 (0, 0))) (hsz : cur.size = 670) (fv : Value) (hfv : ∃ p, fv = .pointer p) :
    Calls Tryz.prog 17 #[.pointer (some ⟨Bb, 659, none⟩), fv, .pointer (some ⟨Bb, 0, none⟩), .int .u16 0] w (fun e w' => e = .returned (.tuple #[]) ∧ PFrm Bb lo w w' ∧ ∃ cur', w'.heap[Bb]? = some (.cells cur' 103 (0, 0)) ∧ cur'.size = 670 ∧ cur'[1]? = cur[1]? ∧ cur'[660]? = some (.pointer (some ⟨Bb, 0, none⟩)) ∧ cur'[661]? = some (.int .i32 0) ∧ cur'[662]? = some (.int .i32 0) ∧ cur'[663]? = some (.int .i32 0) ∧
      cur'[664]? = some (.int .i32 0) ∧ cur'[666]? = some (.bool false) ∧ cur'[667]? = some (.bool false)) := by
  obtain ⟨p, rfl⟩ := hfv
  have hc : ∀ o, o < 670 → ∃ v, w.cell? ⟨Bb, o, none⟩ = some v := fun o ho => ⟨cur[o], by rw [blk_cell h]; exact Array.getElem?_eq_getElem (by omega)⟩
  obtain ⟨v0, h0⟩ := hc 659 (by decide)
  obtain ⟨v1, h1⟩ := hc 660 (by decide)
  obtain ⟨v2, h2⟩ := hc 661 (by decide)
  obtain ⟨v3, h3⟩ := hc 662 (by decide)
  obtain ⟨v4, h4⟩ := hc 663 (by decide)
  obtain ⟨v5, h5⟩ := hc 664 (by decide)
  obtain ⟨v6, h6⟩ := hc 665 (by decide)
  obtain ⟨v7, h7⟩ := hc 666 (by decide)
  obtain ⟨v8, h8⟩ := hc 667 (by decide)
  obtain ⟨v9, h9⟩ := hc 668 (by decide)
  obtain ⟨v10, h10⟩ := hc 669 (by decide)
  have f0 := blk_free h 659
  have f1 := blk_free h 660
  have f2 := blk_free h 661
  have f3 := blk_free h 662
  have f4 := blk_free h 663
  have f5 := blk_free h 664
  have f6 := blk_free h 665
  have f7 := blk_free h 666
  have f8 := blk_free h 667
  have f9 := blk_free h 668
  have f10 := blk_free h 669
  have HF : PFrm Bb lo w (((((((((((w.setCell ⟨Bb, 659, none⟩ (.pointer p)).setCell ⟨Bb, 660, none⟩ (.pointer (some ⟨Bb, 0, none⟩))).setCell ⟨Bb, 661, none⟩ (.int .i32 0)).setCell ⟨Bb, 662, none⟩ (.int .i32 0)).setCell ⟨Bb, 663, none⟩ (.int .i32 0)).setCell
      ⟨Bb, 664, none⟩ (.int .i32 0)).setCell ⟨Bb, 665, none⟩ (.int .i32 0)).setCell ⟨Bb, 666, none⟩ (.bool false)).setCell ⟨Bb, 667, none⟩ (.bool false)).setCell ⟨Bb, 668, none⟩ (.int .u16 0)).setCell ⟨Bb, 669, none⟩ (.int .i32 0)) :=
    (PFrm.set _ _ _ _ _).trans ((PFrm.set _ _ _ _ _).trans ((PFrm.set _ _ _ _ _).trans ((PFrm.set _ _ _ _ _).trans ((PFrm.set _ _ _ _ _).trans ((PFrm.set _ _ _ _ _).trans ((PFrm.set _ _ _ _ _).trans ((PFrm.set _ _ _ _ _).trans ((PFrm.set _ _ _ _ _).trans ((PFrm.set _ _ _ _ _).trans (PFrm.set _ _ _ _ _))))))))))
  have HB := blk_set (blk_set (blk_set (blk_set (blk_set (blk_set (blk_set (blk_set (blk_set (blk_set (blk_set h 659 (.pointer p)) 660 (.pointer (some ⟨Bb, 0, none⟩))) 661 (.int .i32 0)) 662 (.int .i32 0)) 663 (.int .i32 0)) 664 (.int .i32 0)) 665 (.int .i32 0)) 666 (.bool false)) 667 (.bool false)) 668 (.int .u16 0)) 669 (.int .i32 0)
  clear hc h
  go_enter Tryz.func17, Tryz.ntmps17
  go_wp2_with fail
  go_end0
  refine ⟨rfl, HF, _, HB, ?_, ?_, ?_, ?_, ?_, ?_, ?_, ?_, ?_⟩ <;> simp [Array.getElem?_setIfInBounds, hsz]
theorem z_size : Tryz.zeroCells103.size = 670 := by kernel_rfl
theorem z_1 : Tryz.zeroCells103[1]? = some (.slice none 0 0) := by kernel_rfl

set_option maxRecDepth 100000 in
set_option maxHeartbeats 4000000 in
theorem zz_c {g n c : Nat} {wd : Bool} {toks : List Tok} {fin : PS} (hg : g < w.heap.size) (hn : n = (encs wd toks).length) (hc1 : n ≤ c) (hc2 : c ≤ 9223372036854775807) (hby : ByteBlk g (encs wd toks) w) (hR : Runs wd toks initP fin) :
    Calls Tryz.prog 13 #[.slice (some ⟨g, 0, none⟩) n c] w (fun e w' => ∃ sv, e = .returned (.tuple #[sv, .bool fin.ended, .nilIface]) ∧ w'.ownsRow w.heap.size 112 7 sv fin.segs.length (segCs fin.segs) ∧ Below w.heap.size w w') := by
  have HR := Lib.hid hR
  have HB := Lib.hid hby
  have HN := Lib.hid hn
  clear hR hby hn
  go_enter Tryz.func13, Tryz.ntmps13
  go_wp2_with fail
  refine (init_c (Bb := w.heap.size + 1 + 1) (lo := w.heap.size) (cur := Tryz.zeroCells103) (blk_at _ _ (by simp only [World.size_alloc])) z_size _ ⟨_, rfl⟩).mono ?_
  rintro e w1 ⟨rfl, hF, cur, hb, hsz, c1, c660, c661, c662, c663, c664, c666, c667⟩
  rw [z_1] at c1
  have hbel : Below w.heap.size w w1 := ⟨hF.os, hF.tape, hF.output, by have := hF.size; simp only [World.size_alloc] at this; omega, fun k hk => by
    refine (hF.blk k (by simp only [World.size_alloc]; omega) (by omega) (fun hl => by omega)).trans ?_
    rw [blk_alloc _ (by simp only [World.size_alloc]; omega), blk_alloc _ (by simp only [World.size_alloc]; omega), blk_alloc _ hk]⟩
  clear hF
  have hby1 : Hid (ByteBlk g (encs wd toks) w1) := Lib.hid (by
    obtain ⟨cu, m, h1, h2⟩ := HB.out
    exact ⟨cu, m, (hbel.block g hg).trans h1, h2⟩)
  have hS := fun lv => PSt.start (lo := w.heap.size) (ins := .slice (some ⟨g, 0, none⟩) n c) (lv := lv) hb hsz c1 c660 c661 c662 c663 c664 c666 c667 (by omega)
  have hfz := blk_free hb
  have hany : ∀ o, o < 670 → ∃ v, w1.cell? ⟨w.heap.size + 1 + 1, o, none⟩ = some v := fun o ho => ⟨cur[o], by rw [blk_cell hb]; exact Array.getElem?_eq_getElem (by omega)⟩
  have hRS := fun lv => run_st (rest := toks) (by omega) HN.out hc1 hc2 hby1.out HR.out rfl hfz hany (hS lv)
  have hRS := Lib.hid hRS
  clear hS hfz hany c1 c660 c661 c662 c663 c664 c666 c667
  go_wp2_with fail
  refine (hRS.out _).mono ?_
  rintro e w2 ⟨rfl, ⟨ins, hS⟩, hF⟩
  obtain ⟨⟨cu, k1, k2, sv, k3, k4⟩, -⟩ := hS
  have q1 : w2.cell? ⟨w.heap.size + 1 + 1, 1, none⟩ = some sv := by rw [blk_cell k1]; exact k3
  have q2 : w2.cell? ⟨w.heap.size + 1 + 1, 667, none⟩ = some (.bool fin.ended) := by rw [blk_cell k1]; exact k2.ended
  have hbel2 := hbel.trans (hF.below (by omega) hbel.size)
  clear hb hF k1 k2 k3
  go_wp2_with (go_quiet (fail))
  go_ret3
  exact ⟨sv, rfl, own_of k4 (fun _ _ _ => rfl), hbel2.trans ⟨rfl, rfl, rfl, Nat.le_refl _, fun _ _ => rfl⟩⟩
end
end Go.Proofs.YtoanpkfekhkaoaaGreatDoor
