/-
  The contracts of the move operators and of endchar. Conditions: the interpreter's state lies in memory and its stack holds what each theorem names.
-/
import Derived.Test.YtoanpkfekhkaoaaGreatDoorIntC
import Derived.LoopN
namespace Go.Proofs.YtoanpkfekhkaoaaGreatDoor
open Go Go.RowKit

/-- The bounds that the steps need. -/
structure PB (s : PS) : Prop where
  x : -900000 ≤ s.x ∧ s.x ≤ 900000
  y : -900000 ≤ s.y ∧ s.y ≤ 900000
  n : s.segs.length ≤ 80000

section
variable {Bb lo c : Nat} {ins : Value} {s : PS} {w : World} {ao : Option Addr}
attribute [local go_sem ↓] Go.wp_at_zero Go.wp_at_succ

set_option maxRecDepth 100000 in
set_option maxHeartbeats 1000000 in
theorem op21_st (hS : PSt Bb lo ins s w) (hB : PB s) (a b : Int) (ha : -1000 ≤ a ∧ a ≤ 1000) (hb : -1000 ≤ b ∧ b ≤ 1000) (hst : s.stk = [a, b] ∨ s.seen = false ∧ ∃ v, s.stk = v :: [a, b]) :
    Calls Tryz.prog 43 #[.pointer (some ⟨Bb, 514, none⟩)] w (PTo Bb lo ins (mvP a b { s with seen := true, stk := [a, b] }) w .nilIface) := by
  obtain ⟨⟨bx1, bx2⟩, ⟨by1, by2⟩, bn⟩ := hB
  have HM : ∀ W, PSt Bb lo ins { s with seen := true, stk := [a, b] } W → Calls Tryz.prog 57 #[.pointer (some ⟨Bb, 659, none⟩), .int .i32 a, .int .i32 b] W (PTo Bb lo ins (mvP a b { s with seen := true, stk := [a, b] }) W (.tuple #[])) :=
    fun W h => moveTo_st h a b ⟨by simp only; omega, by simp only; omega⟩ ⟨by simp only; omega, by simp only; omega⟩ ha hb (by simp only; omega)
  clear bx1 bx2 by1 by2 bn ha hb
  go_enter Tryz.func43, Tryz.ntmps43
  go_wp2_with fail
  refine (rw_st hS hst 2 (by decide) rfl).mono ?_
  rintro e w1 ⟨rfl, hS1, hF1⟩
  have h566 : w1.cell? ⟨Bb, 566, none⟩ = some (.int .i32 2) := hS1.cell.2.2.1
  have h518 : w1.cell? ⟨Bb, 518, none⟩ = some (.int .i32 a) := hS1.arg (i := 0) rfl
  have h519 : w1.cell? ⟨Bb, 519, none⟩ = some (.int .i32 b) := hS1.arg (i := 1) rfl
  go_upto_region 4 with (fail)
  refine wp_region_still_tail 15 (by kernel_rfl) (by kernel_rfl) ?_
  change wpStill _ _ (World.drew w1) (fun a' => wpList _ _ _ _ a' (World.drew w1)) _ _
  simp only [List.take_succ_cons, List.take_zero, List.drop_succ_cons, List.drop_zero]
  iterate 15 (refine' wpS_one (by rfl) ?_ ?_; rotate_left; (focus (go_simp; with_reducible rfl)); simp only [Act.put, List.setIfInBounds_toArray, List.set_cons_zero, List.set_cons_succ])
  refine wpStill_nil ?_
  have HC := HM _ hS1.drew
  clear HM
  go_wp2_with fail
  refine HC.mono ?_
  rintro e w2 ⟨rfl, hS2, hF2⟩
  go_wp2_with fail
  go_ret
  exact ⟨rfl, hS2, hF1.trans ((PFrm.drew _ _ _).trans hF2)⟩
set_option maxRecDepth 100000 in
set_option maxHeartbeats 1000000 in
theorem op22_st (hS : PSt Bb lo ins s w) (hB : PB s) (a : Int) (ha : -1000 ≤ a ∧ a ≤ 1000) (hst : s.stk = [a] ∨ s.seen = false ∧ ∃ v, s.stk = v :: [a]) :
    Calls Tryz.prog 44 #[.pointer (some ⟨Bb, 514, none⟩)] w (PTo Bb lo ins (mvP a 0 { s with seen := true, stk := [a] }) w .nilIface) := by
  obtain ⟨⟨bx1, bx2⟩, ⟨by1, by2⟩, bn⟩ := hB
  have HM : ∀ W, PSt Bb lo ins { s with seen := true, stk := [a] } W → Calls Tryz.prog 57 #[.pointer (some ⟨Bb, 659, none⟩), .int .i32 a, .int .i32 0] W (PTo Bb lo ins (mvP a 0 { s with seen := true, stk := [a] }) W (.tuple #[])) :=
    fun W h => moveTo_st h a 0 ⟨by simp only; omega, by simp only; omega⟩ ⟨by simp only; omega, by simp only; omega⟩ ha (by omega) (by simp only; omega)
  clear bx1 bx2 by1 by2 bn ha
  go_enter Tryz.func44, Tryz.ntmps44
  go_wp2_with fail
  refine (rw_st hS hst 1 (by decide) rfl).mono ?_
  rintro e w1 ⟨rfl, hS1, hF1⟩
  have h566 : w1.cell? ⟨Bb, 566, none⟩ = some (.int .i32 1) := hS1.cell.2.2.1
  have h518 : w1.cell? ⟨Bb, 518, none⟩ = some (.int .i32 a) := hS1.arg (i := 0) rfl
  go_upto_region 4 with (fail)
  refine wp_region_still_tail 9 (by kernel_rfl) (by kernel_rfl) ?_
  change wpStill _ _ (World.drew w1) (fun a' => wpList _ _ _ _ a' (World.drew w1)) _ _
  simp only [List.take_succ_cons, List.take_zero, List.drop_succ_cons, List.drop_zero]
  iterate 9 (refine' wpS_one (by rfl) ?_ ?_; rotate_left; (focus (go_simp; with_reducible rfl)); simp only [Act.put, List.setIfInBounds_toArray, List.set_cons_zero, List.set_cons_succ])
  refine wpStill_nil ?_
  have HC := HM _ hS1.drew
  clear HM
  go_wp2_with fail
  refine HC.mono ?_
  rintro e w2 ⟨rfl, hS2, hF2⟩
  go_wp2_with fail
  go_ret
  exact ⟨rfl, hS2, hF1.trans ((PFrm.drew _ _ _).trans hF2)⟩
set_option maxRecDepth 100000 in
set_option maxHeartbeats 1000000 in
theorem op4_st (hS : PSt Bb lo ins s w) (hB : PB s) (a : Int) (ha : -1000 ≤ a ∧ a ≤ 1000) (hst : s.stk = [a] ∨ s.seen = false ∧ ∃ v, s.stk = v :: [a]) :
    Calls Tryz.prog 34 #[.pointer (some ⟨Bb, 514, none⟩)] w (PTo Bb lo ins (mvP 0 a { s with seen := true, stk := [a] }) w .nilIface) := by
  obtain ⟨⟨bx1, bx2⟩, ⟨by1, by2⟩, bn⟩ := hB
  have HM : ∀ W, PSt Bb lo ins { s with seen := true, stk := [a] } W → Calls Tryz.prog 57 #[.pointer (some ⟨Bb, 659, none⟩), .int .i32 0, .int .i32 a] W (PTo Bb lo ins (mvP 0 a { s with seen := true, stk := [a] }) W (.tuple #[])) :=
    fun W h => moveTo_st h 0 a ⟨by simp only; omega, by simp only; omega⟩ ⟨by simp only; omega, by simp only; omega⟩ (by omega) ha (by simp only; omega)
  clear bx1 bx2 by1 by2 bn ha
  go_enter Tryz.func34, Tryz.ntmps34
  go_wp2_with fail
  refine (rw_st hS hst 1 (by decide) rfl).mono ?_
  rintro e w1 ⟨rfl, hS1, hF1⟩
  have h566 : w1.cell? ⟨Bb, 566, none⟩ = some (.int .i32 1) := hS1.cell.2.2.1
  have h518 : w1.cell? ⟨Bb, 518, none⟩ = some (.int .i32 a) := hS1.arg (i := 0) rfl
  go_upto_region 4 with (fail)
  refine wp_region_still_tail 9 (by kernel_rfl) (by kernel_rfl) ?_
  change wpStill _ _ (World.drew w1) (fun a' => wpList _ _ _ _ a' (World.drew w1)) _ _
  simp only [List.take_succ_cons, List.take_zero, List.drop_succ_cons, List.drop_zero]
  iterate 9 (refine' wpS_one (by rfl) ?_ ?_; rotate_left; (focus (go_simp; with_reducible rfl)); simp only [Act.put, List.setIfInBounds_toArray, List.set_cons_zero, List.set_cons_succ])
  refine wpStill_nil ?_
  have HC := HM _ hS1.drew
  clear HM
  go_wp2_with fail
  refine HC.mono ?_
  rintro e w2 ⟨rfl, hS2, hF2⟩
  go_wp2_with fail
  go_ret
  exact ⟨rfl, hS2, hF1.trans ((PFrm.drew _ _ _).trans hF2)⟩

set_option maxRecDepth 100000 in
theorem more_st (hS : PSt Bb lo (.slice ao 0 c) s w) : Calls Tryz.prog 64 #[.pointer (some ⟨Bb, 514, none⟩)] w (fun e w' => e = .returned (.bool false) ∧ w' = w) := by
  obtain ⟨-, h515, -, h587, -, -, -, -, -, -, -⟩ := hS.cell
  go_enter Tryz.func64, Tryz.ntmps64
  go_wp2_with fail
  refine wp_loop_rounds 1 ?_
  rw [rounds_succ]
  go_wp2_with fail
  go_ret
  exact ⟨rfl, rfl⟩
set_option maxRecDepth 100000 in
theorem op14_st (hS : PSt Bb lo (.slice ao 0 c) s w) (hB : PB s) (hst : s.stk = [] ∨ s.seen = false ∧ ∃ v, s.stk = v :: []) :
    Calls Tryz.prog 41 #[.pointer (some ⟨Bb, 514, none⟩)] w (PTo Bb lo (.slice ao 0 c) { clP { s with seen := true, stk := [] } with ended := true } w .nilIface) := by
  have hn := hB.n
  go_enter Tryz.func41, Tryz.ntmps41
  go_wp2_with fail
  refine (rw_st hS hst 0 (by decide) rfl).mono ?_
  rintro e w1 ⟨rfl, hS1, hF1⟩
  have h566 : w1.cell? ⟨Bb, 566, none⟩ = some (.int .i32 0) := hS1.cell.2.2.1
  go_wp2_with fail
  refine (more_st hS1).mono ?_
  rintro e w2 ⟨rfl, rfl⟩
  go_wp2_with fail
  refine (closePath_st hS1 (by simp only; omega)).mono ?_
  rintro e w3 ⟨rfl, hS3, hF3⟩
  have hS3 : PSt Bb lo (.slice ao 0 c) (clP { s with seen := true, stk := [] }) w3 := hS3
  have f667 := hS3.free 667
  obtain ⟨v667, h667⟩ := hS3.any (o := 667) (by decide)
  have hS4 := hS3.setEnded true
  go_wp2_with fail
  go_ret
  exact ⟨rfl, hS4, hF1.trans (hF3.trans (PFrm.set _ _ _ _ _))⟩
end
end Go.Proofs.YtoanpkfekhkaoaaGreatDoor
