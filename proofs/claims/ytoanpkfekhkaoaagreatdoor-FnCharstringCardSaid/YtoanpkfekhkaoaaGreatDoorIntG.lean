/-
  The contracts of u16 and of parseNumber, first part. Conditions: as each theorem names them.
-/
import Derived.Test.YtoanpkfekhkaoaaGreatDoorIntC
import Derived.BigQuiet
import Derived.Laws.BitsLemmas
namespace Go.Proofs.YtoanpkfekhkaoaaGreatDoor
open Go Go.RowKit

/-- What is left of the instructions: 'n' bytes from place 'o' of block 'g' on. -/
def InsAt (g o n : Nat) (v : Value) : Prop := ∃ ao c, v = .slice (some ao) n c ∧ n ≤ c ∧ c ≤ 9223372036854775807 ∧ (0 < n → ao = ⟨g, o, none⟩)
theorem InsAt.pos {g o n : Nat} {v : Value} (h : InsAt g o n v) (hn : 0 < n) : ∃ c, v = .slice (some ⟨g, o, none⟩) n c ∧ n ≤ c ∧ c ≤ 9223372036854775807 := by
  obtain ⟨ao, c, h1, h2, h2', h3⟩ := h
  rw [h3 hn] at h1
  exact ⟨c, h1, h2, h2'⟩
theorem InsAt.cut {g o n c k : Nat} (hk : k ≤ n) (hc : n ≤ c) (hb : c ≤ 9223372036854775807) : InsAt g (o + k) (n - k) (.slice (some (if c = k then ⟨g, o, none⟩ else ⟨g, o + k, none⟩)) (n - k) (c - k)) := by
  refine ⟨_, _, rfl, by omega, by omega, fun h => ?_⟩
  rw [if_neg (by omega)]

section
variable {Bb lo g o n c : Nat} {s : PS} {w : World}

theorem wraps16 (n : Int) (h₀ : 0 ≤ n) (h₁ : n < 2 ^ 16) : IntKind.u16.wrap n = n := by rw [IntKind.wrap_u16]; omega
theorem or16 (a b : Int) (h1 : 0 ≤ a) (h2 : a < 256) (h3 : 0 ≤ b) (h4 : b < 256) : bits .or .u16 (a * 256) b = a * 256 + b :=
  bits_join .u16 16 (by decide) wraps16 8 _ _ (by omega) (by omega) (by omega) h3 (by omega) (by omega)
attribute [local go_sem ↓] Go.wp_at_zero Go.wp_at_succ
set_option maxRecDepth 100000 in
theorem u16_c (b0 b1 : Int) (hn : 2 ≤ n) (h0 : w.cell? ⟨g, o, none⟩ = some (.int .u8 b0)) (h1 : w.cell? ⟨g, o + 1, none⟩ = some (.int .u8 b1)) (r0 : 0 ≤ b0 ∧ b0 < 256) (r1 : 0 ≤ b1 ∧ b1 < 256) :
    Calls Tryz.prog 23 #[.slice (some ⟨g, o, none⟩) n c] w (fun e w' => e = .returned (.int .u16 (b0 * 256 + b1)) ∧ ∃ q, w' = w.drewN q) := by
  obtain ⟨r00, r01⟩ := r0
  obtain ⟨r10, r11⟩ := r1
  have H := or16 b0 b1 r00 r01 r10 r11
  go_enter Tryz.func23, Tryz.ntmps23
  go_wp2_with (go_quiet (fail))
  go_ret
  exact ⟨rfl, nq, rfl⟩

/-- What 'parseNumber' leaves: a number pushed. -/
def NumTo (Bb lo g o n : Nat) (s : PS) (v : Int) (w : World) (e : Ending) (w' : World) : Prop :=
  e = .returned (.tuple #[.bool true, .nilIface]) ∧ ∃ ins, InsAt g o n ins ∧ PSt Bb lo ins { s with stk := s.stk ++ [v] } w' ∧ PFrm Bb lo w w'
set_option maxRecDepth 100000 in
set_option maxHeartbeats 4000000 in
theorem pn_small (hS : PSt Bb lo (.slice (some ⟨g, o, none⟩) n c) s w) (hn : 1 ≤ n) (hnc : n ≤ c) (hcb : c ≤ 9223372036854775807) (m : Nat) (hm : s.stk.length = m) (h48 : m < 48) (b0 : Int) (r0 : 32 ≤ b0 ∧ b0 < 247) (hb0 : w.cell? ⟨g, o, none⟩ = some (.int .u8 b0)) :
    Calls Tryz.prog 20 #[.pointer (some ⟨Bb, 514, none⟩)] w (NumTo Bb lo g (o + 1) (n - 1) s (b0 - 139) w) := by
  have hIA := InsAt.cut (g := g) (o := o) (n := n) (c := c) (k := 1) hn hnc hcb
  have h514 := hS.cell.1
  have h515 := hS.cell.2.1
  have f515 := hS.free 515
  obtain ⟨r00, r01⟩ := r0
  go_enter Tryz.func20, Tryz.ntmps20
  by_cases hck : c = 1
  · rw [if_pos hck] at hIA
    subst hck
    obtain rfl : n = 1 := by omega
    have hS1 := hS.setIns (.slice (some ⟨g, o, none⟩) 0 0)
    have hF1 := PFrm.set Bb lo w 515 (.slice (some ⟨g, o, none⟩) 0 0)
    go_upto_region 57 with (fail)
    generalize w.setCell ⟨Bb, 515, none⟩ (.slice (some ⟨g, o, none⟩) 0 0) = W at hS1 hF1 ⊢
    have h566 : W.cell? ⟨Bb, 566, none⟩ = some (.int .i32 m) := by have := hS1.cell.2.2.1; rw [hm] at this; exact this
    have f566 := hS1.free 566
    have fm := hS1.free (518 + m)
    obtain ⟨vm, hvm⟩ := hS1.any (o := 518 + m) (by omega)
    have hne : 518 + m ≠ 566 := by omega
    have hne2 : (m : Int) ≠ 48 := by omega
    have hne3 : (m : Int) < 48 := by omega
    have hS2 := hS1.drew.push (b0 - 139) m hm h48
    have hF2 := (PFrm.drew Bb lo W).trans ((PFrm.set Bb lo W.drew (518 + m) (.int .i32 (b0 - 139))).trans (PFrm.set Bb lo _ 566 (.int .i32 ((m : Int) + 1))))
    clear h515 f515 h514 hS1
    go_upto_region 60 with (fail)
    refine wp_region_still_tail 11 (by kernel_rfl) (by kernel_rfl) ?_
    change wpStill _ _ (World.drew W) (fun a' => wpList _ _ _ _ a' (World.drew W)) _ _
    simp only [List.take_succ_cons, List.take_zero, List.drop_succ_cons, List.drop_zero]
    iterate 11 (refine' wpS_one (by rfl) ?_ ?_; rotate_left; (focus (go_simp; with_reducible rfl)); simp only [Act.put, List.setIfInBounds_toArray, List.set_cons_zero, List.set_cons_succ])
    refine wpStill_nil ?_
    go_wp2_with fail
    go_ret2
    exact ⟨rfl, _, hIA, hS2, hF1.trans hF2⟩
  · rw [if_neg hck] at hIA
    have hS1 := hS.setIns (.slice (some ⟨g, o + 1, none⟩) (n - 1) (c - 1))
    have hF1 := PFrm.set Bb lo w 515 (.slice (some ⟨g, o + 1, none⟩) (n - 1) (c - 1))
    go_upto_region 57 with (fail)
    generalize w.setCell ⟨Bb, 515, none⟩ (.slice (some ⟨g, o + 1, none⟩) (n - 1) (c - 1)) = W at hS1 hF1 ⊢
    have h566 : W.cell? ⟨Bb, 566, none⟩ = some (.int .i32 m) := by have := hS1.cell.2.2.1; rw [hm] at this; exact this
    have f566 := hS1.free 566
    have fm := hS1.free (518 + m)
    obtain ⟨vm, hvm⟩ := hS1.any (o := 518 + m) (by omega)
    have hne : 518 + m ≠ 566 := by omega
    have hne2 : (m : Int) ≠ 48 := by omega
    have hne3 : (m : Int) < 48 := by omega
    have hS2 := hS1.drew.push (b0 - 139) m hm h48
    have hF2 := (PFrm.drew Bb lo W).trans ((PFrm.set Bb lo W.drew (518 + m) (.int .i32 (b0 - 139))).trans (PFrm.set Bb lo _ 566 (.int .i32 ((m : Int) + 1))))
    clear h515 f515 h514 hS1
    go_upto_region 60 with (fail)
    refine wp_region_still_tail 11 (by kernel_rfl) (by kernel_rfl) ?_
    change wpStill _ _ (World.drew W) (fun a' => wpList _ _ _ _ a' (World.drew W)) _ _
    simp only [List.take_succ_cons, List.take_zero, List.drop_succ_cons, List.drop_zero]
    iterate 11 (refine' wpS_one (by rfl) ?_ ?_; rotate_left; (focus (go_simp; with_reducible rfl)); simp only [Act.put, List.setIfInBounds_toArray, List.set_cons_zero, List.set_cons_succ])
    refine wpStill_nil ?_
    go_wp2_with fail
    go_ret2
    exact ⟨rfl, _, hIA, hS2, hF1.trans hF2⟩
set_option maxRecDepth 100000 in
set_option maxHeartbeats 4000000 in
theorem pn_pos (hS : PSt Bb lo (.slice (some ⟨g, o, none⟩) n c) s w) (hn : 2 ≤ n) (hnc : n ≤ c) (hcb : c ≤ 9223372036854775807) (m : Nat) (hm : s.stk.length = m) (h48 : m < 48) (b0 b1 : Int) (r0 : 247 ≤ b0 ∧ b0 < 251) (r1 : 0 ≤ b1 ∧ b1 < 256) (hb0 : w.cell? ⟨g, o, none⟩ = some (.int .u8 b0)) (hb1 : w.cell? ⟨g, o + 1, none⟩ = some (.int .u8 b1)) :
    Calls Tryz.prog 20 #[.pointer (some ⟨Bb, 514, none⟩)] w (NumTo Bb lo g (o + 2) (n - 2) s ((b0 - 247) * 256 + b1 + 108) w) := by
  have hIA := InsAt.cut (g := g) (o := o) (n := n) (c := c) (k := 2) hn hnc hcb
  have h514 := hS.cell.1
  have h515 := hS.cell.2.1
  have f515 := hS.free 515
  obtain ⟨r00, r01⟩ := r0
  obtain ⟨r10, r11⟩ := r1
  go_enter Tryz.func20, Tryz.ntmps20
  by_cases hck : c = 2
  · rw [if_pos hck] at hIA
    subst hck
    obtain rfl : n = 2 := by omega
    have hS1 := hS.setIns (.slice (some ⟨g, o, none⟩) 0 0)
    have hF1 := PFrm.set Bb lo w 515 (.slice (some ⟨g, o, none⟩) 0 0)
    go_upto_region 57 with (fail)
    generalize w.setCell ⟨Bb, 515, none⟩ (.slice (some ⟨g, o, none⟩) 0 0) = W at hS1 hF1 ⊢
    have h566 : W.cell? ⟨Bb, 566, none⟩ = some (.int .i32 m) := by have := hS1.cell.2.2.1; rw [hm] at this; exact this
    have f566 := hS1.free 566
    have fm := hS1.free (518 + m)
    obtain ⟨vm, hvm⟩ := hS1.any (o := 518 + m) (by omega)
    have hne : 518 + m ≠ 566 := by omega
    have hne2 : (m : Int) ≠ 48 := by omega
    have hne3 : (m : Int) < 48 := by omega
    have hS2 := hS1.drew.push ((b0 - 247) * 256 + b1 + 108) m hm h48
    have hF2 := (PFrm.drew Bb lo W).trans ((PFrm.set Bb lo W.drew (518 + m) (.int .i32 ((b0 - 247) * 256 + b1 + 108))).trans (PFrm.set Bb lo _ 566 (.int .i32 ((m : Int) + 1))))
    clear h515 f515 h514 hS1
    go_upto_region 60 with (fail)
    refine wp_region_still_tail 11 (by kernel_rfl) (by kernel_rfl) ?_
    change wpStill _ _ (World.drew W) (fun a' => wpList _ _ _ _ a' (World.drew W)) _ _
    simp only [List.take_succ_cons, List.take_zero, List.drop_succ_cons, List.drop_zero]
    iterate 11 (refine' wpS_one (by rfl) ?_ ?_; rotate_left; (focus (go_simp; with_reducible rfl)); simp only [Act.put, List.setIfInBounds_toArray, List.set_cons_zero, List.set_cons_succ])
    refine wpStill_nil ?_
    go_wp2_with fail
    go_ret2
    exact ⟨rfl, _, hIA, hS2, hF1.trans hF2⟩
  · rw [if_neg hck] at hIA
    have hS1 := hS.setIns (.slice (some ⟨g, o + 2, none⟩) (n - 2) (c - 2))
    have hF1 := PFrm.set Bb lo w 515 (.slice (some ⟨g, o + 2, none⟩) (n - 2) (c - 2))
    go_upto_region 57 with (fail)
    generalize w.setCell ⟨Bb, 515, none⟩ (.slice (some ⟨g, o + 2, none⟩) (n - 2) (c - 2)) = W at hS1 hF1 ⊢
    have h566 : W.cell? ⟨Bb, 566, none⟩ = some (.int .i32 m) := by have := hS1.cell.2.2.1; rw [hm] at this; exact this
    have f566 := hS1.free 566
    have fm := hS1.free (518 + m)
    obtain ⟨vm, hvm⟩ := hS1.any (o := 518 + m) (by omega)
    have hne : 518 + m ≠ 566 := by omega
    have hne2 : (m : Int) ≠ 48 := by omega
    have hne3 : (m : Int) < 48 := by omega
    have hS2 := hS1.drew.push ((b0 - 247) * 256 + b1 + 108) m hm h48
    have hF2 := (PFrm.drew Bb lo W).trans ((PFrm.set Bb lo W.drew (518 + m) (.int .i32 ((b0 - 247) * 256 + b1 + 108))).trans (PFrm.set Bb lo _ 566 (.int .i32 ((m : Int) + 1))))
    clear h515 f515 h514 hS1
    go_upto_region 60 with (fail)
    refine wp_region_still_tail 11 (by kernel_rfl) (by kernel_rfl) ?_
    change wpStill _ _ (World.drew W) (fun a' => wpList _ _ _ _ a' (World.drew W)) _ _
    simp only [List.take_succ_cons, List.take_zero, List.drop_succ_cons, List.drop_zero]
    iterate 11 (refine' wpS_one (by rfl) ?_ ?_; rotate_left; (focus (go_simp; with_reducible rfl)); simp only [Act.put, List.setIfInBounds_toArray, List.set_cons_zero, List.set_cons_succ])
    refine wpStill_nil ?_
    go_wp2_with fail
    go_ret2
    exact ⟨rfl, _, hIA, hS2, hF1.trans hF2⟩
set_option maxRecDepth 100000 in
set_option maxHeartbeats 4000000 in
theorem pn_neg (hS : PSt Bb lo (.slice (some ⟨g, o, none⟩) n c) s w) (hn : 2 ≤ n) (hnc : n ≤ c) (hcb : c ≤ 9223372036854775807) (m : Nat) (hm : s.stk.length = m) (h48 : m < 48) (b0 b1 : Int) (r0 : 251 ≤ b0 ∧ b0 < 255) (r1 : 0 ≤ b1 ∧ b1 < 256) (hb0 : w.cell? ⟨g, o, none⟩ = some (.int .u8 b0)) (hb1 : w.cell? ⟨g, o + 1, none⟩ = some (.int .u8 b1)) :
    Calls Tryz.prog 20 #[.pointer (some ⟨Bb, 514, none⟩)] w (NumTo Bb lo g (o + 2) (n - 2) s (-(b0 - 251) * 256 - b1 - 108) w) := by
  have hIA := InsAt.cut (g := g) (o := o) (n := n) (c := c) (k := 2) hn hnc hcb
  have h514 := hS.cell.1
  have h515 := hS.cell.2.1
  have f515 := hS.free 515
  obtain ⟨r00, r01⟩ := r0
  obtain ⟨r10, r11⟩ := r1
  go_enter Tryz.func20, Tryz.ntmps20
  by_cases hck : c = 2
  · rw [if_pos hck] at hIA
    subst hck
    obtain rfl : n = 2 := by omega
    have hS1 := hS.setIns (.slice (some ⟨g, o, none⟩) 0 0)
    have hF1 := PFrm.set Bb lo w 515 (.slice (some ⟨g, o, none⟩) 0 0)
    go_upto_region 57 with (fail)
    generalize w.setCell ⟨Bb, 515, none⟩ (.slice (some ⟨g, o, none⟩) 0 0) = W at hS1 hF1 ⊢
    have h566 : W.cell? ⟨Bb, 566, none⟩ = some (.int .i32 m) := by have := hS1.cell.2.2.1; rw [hm] at this; exact this
    have f566 := hS1.free 566
    have fm := hS1.free (518 + m)
    obtain ⟨vm, hvm⟩ := hS1.any (o := 518 + m) (by omega)
    have hne : 518 + m ≠ 566 := by omega
    have hne2 : (m : Int) ≠ 48 := by omega
    have hne3 : (m : Int) < 48 := by omega
    have hS2 := hS1.drew.push (-(b0 - 251) * 256 - b1 - 108) m hm h48
    have hF2 := (PFrm.drew Bb lo W).trans ((PFrm.set Bb lo W.drew (518 + m) (.int .i32 (-(b0 - 251) * 256 - b1 - 108))).trans (PFrm.set Bb lo _ 566 (.int .i32 ((m : Int) + 1))))
    clear h515 f515 h514 hS1
    go_upto_region 60 with (fail)
    refine wp_region_still_tail 11 (by kernel_rfl) (by kernel_rfl) ?_
    change wpStill _ _ (World.drew W) (fun a' => wpList _ _ _ _ a' (World.drew W)) _ _
    simp only [List.take_succ_cons, List.take_zero, List.drop_succ_cons, List.drop_zero]
    iterate 11 (refine' wpS_one (by rfl) ?_ ?_; rotate_left; (focus (go_simp; with_reducible rfl)); simp only [Act.put, List.setIfInBounds_toArray, List.set_cons_zero, List.set_cons_succ])
    refine wpStill_nil ?_
    go_wp2_with fail
    go_ret2
    exact ⟨rfl, _, hIA, hS2, hF1.trans hF2⟩
  · rw [if_neg hck] at hIA
    have hS1 := hS.setIns (.slice (some ⟨g, o + 2, none⟩) (n - 2) (c - 2))
    have hF1 := PFrm.set Bb lo w 515 (.slice (some ⟨g, o + 2, none⟩) (n - 2) (c - 2))
    go_upto_region 57 with (fail)
    generalize w.setCell ⟨Bb, 515, none⟩ (.slice (some ⟨g, o + 2, none⟩) (n - 2) (c - 2)) = W at hS1 hF1 ⊢
    have h566 : W.cell? ⟨Bb, 566, none⟩ = some (.int .i32 m) := by have := hS1.cell.2.2.1; rw [hm] at this; exact this
    have f566 := hS1.free 566
    have fm := hS1.free (518 + m)
    obtain ⟨vm, hvm⟩ := hS1.any (o := 518 + m) (by omega)
    have hne : 518 + m ≠ 566 := by omega
    have hne2 : (m : Int) ≠ 48 := by omega
    have hne3 : (m : Int) < 48 := by omega
    have hS2 := hS1.drew.push (-(b0 - 251) * 256 - b1 - 108) m hm h48
    have hF2 := (PFrm.drew Bb lo W).trans ((PFrm.set Bb lo W.drew (518 + m) (.int .i32 (-(b0 - 251) * 256 - b1 - 108))).trans (PFrm.set Bb lo _ 566 (.int .i32 ((m : Int) + 1))))
    clear h515 f515 h514 hS1
    go_upto_region 60 with (fail)
    refine wp_region_still_tail 11 (by kernel_rfl) (by kernel_rfl) ?_
    change wpStill _ _ (World.drew W) (fun a' => wpList _ _ _ _ a' (World.drew W)) _ _
    simp only [List.take_succ_cons, List.take_zero, List.drop_succ_cons, List.drop_zero]
    iterate 11 (refine' wpS_one (by rfl) ?_ ?_; rotate_left; (focus (go_simp; with_reducible rfl)); simp only [Act.put, List.setIfInBounds_toArray, List.set_cons_zero, List.set_cons_succ])
    refine wpStill_nil ?_
    go_wp2_with fail
    go_ret2
    exact ⟨rfl, _, hIA, hS2, hF1.trans hF2⟩
set_option maxRecDepth 100000 in
set_option maxHeartbeats 4000000 in
theorem pn_op (hS : PSt Bb lo (.slice (some ⟨g, o, none⟩) n c) s w) (hn : 1 ≤ n) (b0 : Int) (r0 : 0 ≤ b0 ∧ b0 < 32) (r1 : b0 ≠ 28) (r2 : b0 ≠ 29) (hb0 : w.cell? ⟨g, o, none⟩ = some (.int .u8 b0)) :
    Calls Tryz.prog 20 #[.pointer (some ⟨Bb, 514, none⟩)] w (fun e w' => e = .returned (.tuple #[.bool false, .nilIface]) ∧ w' = w) := by
  have h514 := hS.cell.1
  have h515 := hS.cell.2.1
  obtain ⟨r00, r01⟩ := r0
  by_cases h30 : b0 = 30
  · subst h30
    go_enter Tryz.func20, Tryz.ntmps20
    go_wp2_with fail
    go_ret2
    exact ⟨rfl, rfl⟩
  · go_enter Tryz.func20, Tryz.ntmps20
    go_wp2_with fail
    go_ret2
    exact ⟨rfl, rfl⟩
end
end Go.Proofs.YtoanpkfekhkaoaaGreatDoor
