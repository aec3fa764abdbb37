/-
  The contract of parseNumber, whole. Conditions: as each theorem names them.
-/
import Derived.Test.YtoanpkfekhkaoaaGreatDoorIntG
namespace Go.Proofs.YtoanpkfekhkaoaaGreatDoor
open Go Go.RowKit
section
variable {Bb lo g o n c : Nat} {s : PS} {w : World}
attribute [local go_sem ↓] Go.wp_at_zero Go.wp_at_succ
set_option maxRecDepth 100000 in
set_option maxHeartbeats 4000000 in
theorem pn_28 (hS : PSt Bb lo (.slice (some ⟨g, o, none⟩) n c) s w) (hn : 3 ≤ n) (hnc : n ≤ c) (hcb : c ≤ 9223372036854775807) (m : Nat) (hm : s.stk.length = m) (h48 : m < 48) (b1 b2 v : Int) (r1 : 0 ≤ b1 ∧ b1 < 256) (r2 : 0 ≤ b2 ∧ b2 < 256) (hv : IntKind.i16.wrap (b1 * 256 + b2) = v) (hv2 : -32768 ≤ v ∧ v < 32768) (hb0 : w.cell? ⟨g, o, none⟩ = some (.int .u8 28)) (hb1 : w.cell? ⟨g, o + 1, none⟩ = some (.int .u8 b1)) (hb2 : w.cell? ⟨g, o + 1 + 1, none⟩ = some (.int .u8 b2)) :
    Calls Tryz.prog 20 #[.pointer (some ⟨Bb, 514, none⟩)] w (NumTo Bb lo g (o + 3) (n - 3) s (v) w) := by
  have hIA := InsAt.cut (g := g) (o := o) (n := n) (c := c) (k := 3) hn hnc hcb
  have h514 := hS.cell.1
  have h515 := hS.cell.2.1
  have f515 := hS.free 515
  obtain ⟨v0, v1⟩ := hv2
  go_enter Tryz.func20, Tryz.ntmps20
  by_cases hck : c = 3
  · rw [if_pos hck] at hIA
    subst hck
    obtain rfl : n = 3 := by omega
    have hc1 : ¬ 3 = 1 := by omega
    go_wp2_with fail
    refine (u16_c (n := 2) b1 b2 (by omega) hb1 hb2 r1 r2).mono ?_
    rintro e w9 ⟨rfl, q, hq⟩
    have hS9 : PSt Bb lo (.slice (some ⟨g, o, none⟩) 3 3) s w9 := hq ▸ hS.drewN q
    have hF9 : PFrm Bb lo w w9 := hq ▸ PFrm.drewN Bb lo w q
    clear h514 h515 f515 hq
    have h514 := hS9.cell.1
    have h515 := hS9.cell.2.1
    have f515 := hS9.free 515
    have hS1 := hS9.setIns (.slice (some ⟨g, o, none⟩) 0 0)
    have hF1 := PFrm.set Bb lo w9 515 (.slice (some ⟨g, o, none⟩) 0 0)
    go_upto_region 57 with (fail)
    generalize w9.setCell ⟨Bb, 515, none⟩ (.slice (some ⟨g, o, none⟩) 0 0) = W at hS1 hF1 ⊢
    have h566 : W.cell? ⟨Bb, 566, none⟩ = some (.int .i32 m) := by have := hS1.cell.2.2.1; rw [hm] at this; exact this
    have f566 := hS1.free 566
    have fm := hS1.free (518 + m)
    obtain ⟨vm, hvm⟩ := hS1.any (o := 518 + m) (by omega)
    have hne : 518 + m ≠ 566 := by omega
    have hne2 : (m : Int) ≠ 48 := by omega
    have hne3 : (m : Int) < 48 := by omega
    have hS2 := hS1.drew.push (v) m hm h48
    have hF2 := (PFrm.drew Bb lo W).trans ((PFrm.set Bb lo W.drew (518 + m) (.int .i32 (v))).trans (PFrm.set Bb lo _ 566 (.int .i32 ((m : Int) + 1))))
    clear h515 f515 h514 hS1
    go_upto_region 60 with (fail)
    refine wp_region_still_tail 11 (by kernel_rfl) (by kernel_rfl) ?_
    change wpStill _ _ (World.drew W) (fun a' => wpList _ _ _ _ a' (World.drew W)) _ _
    simp only [List.take_succ_cons, List.take_zero, List.drop_succ_cons, List.drop_zero]
    iterate 11 (refine' wpS_one (by rfl) ?_ ?_; rotate_left; (focus (go_simp; with_reducible rfl)); simp only [Act.put, List.setIfInBounds_toArray, List.set_cons_zero, List.set_cons_succ])
    refine wpStill_nil ?_
    go_wp2_with fail
    go_ret2
    exact ⟨rfl, _, hIA, hS2, hF9.trans (hF1.trans hF2)⟩
  · rw [if_neg hck] at hIA
    have hc1 : ¬ c = 1 := by omega
    go_wp2_with fail
    refine (u16_c (n := n - 1) b1 b2 (by omega) hb1 hb2 r1 r2).mono ?_
    rintro e w9 ⟨rfl, q, hq⟩
    have hS9 : PSt Bb lo (.slice (some ⟨g, o, none⟩) n c) s w9 := hq ▸ hS.drewN q
    have hF9 : PFrm Bb lo w w9 := hq ▸ PFrm.drewN Bb lo w q
    clear h514 h515 f515 hq
    have h514 := hS9.cell.1
    have h515 := hS9.cell.2.1
    have f515 := hS9.free 515
    have hS1 := hS9.setIns (.slice (some ⟨g, o + 3, none⟩) (n - 3) (c - 3))
    have hF1 := PFrm.set Bb lo w9 515 (.slice (some ⟨g, o + 3, none⟩) (n - 3) (c - 3))
    go_upto_region 57 with (fail)
    generalize w9.setCell ⟨Bb, 515, none⟩ (.slice (some ⟨g, o + 3, none⟩) (n - 3) (c - 3)) = W at hS1 hF1 ⊢
    have h566 : W.cell? ⟨Bb, 566, none⟩ = some (.int .i32 m) := by have := hS1.cell.2.2.1; rw [hm] at this; exact this
    have f566 := hS1.free 566
    have fm := hS1.free (518 + m)
    obtain ⟨vm, hvm⟩ := hS1.any (o := 518 + m) (by omega)
    have hne : 518 + m ≠ 566 := by omega
    have hne2 : (m : Int) ≠ 48 := by omega
    have hne3 : (m : Int) < 48 := by omega
    have hS2 := hS1.drew.push (v) m hm h48
    have hF2 := (PFrm.drew Bb lo W).trans ((PFrm.set Bb lo W.drew (518 + m) (.int .i32 (v))).trans (PFrm.set Bb lo _ 566 (.int .i32 ((m : Int) + 1))))
    clear h515 f515 h514 hS1
    go_upto_region 60 with (fail)
    refine wp_region_still_tail 11 (by kernel_rfl) (by kernel_rfl) ?_
    change wpStill _ _ (World.drew W) (fun a' => wpList _ _ _ _ a' (World.drew W)) _ _
    simp only [List.take_succ_cons, List.take_zero, List.drop_succ_cons, List.drop_zero]
    iterate 11 (refine' wpS_one (by rfl) ?_ ?_; rotate_left; (focus (go_simp; with_reducible rfl)); simp only [Act.put, List.setIfInBounds_toArray, List.set_cons_zero, List.set_cons_succ])
    refine wpStill_nil ?_
    go_wp2_with fail
    go_ret2
    exact ⟨rfl, _, hIA, hS2, hF9.trans (hF1.trans hF2)⟩
end
end Go.Proofs.YtoanpkfekhkaoaaGreatDoor
