/-
  The contracts of the line operators and of rrcurveto. Conditions: as in the text before it.
-/
import Derived.Test.YtoanpkfekhkaoaaGreatDoorIntD
namespace Go.Proofs.YtoanpkfekhkaoaaGreatDoor
open Go Go.RowKit
section
variable {Bb lo : Nat} {ins : Value} {s : PS} {w : World}
attribute [local go_sem ↓] Go.wp_at_zero Go.wp_at_succ
theorem wrap3 : IntKind.i32.wrap 3 = 3 := rfl
theorem wrap4 : IntKind.i32.wrap 4 = 4 := rfl
theorem wrap5 : IntKind.i32.wrap 5 = 5 := rfl
theorem wrap6 : IntKind.i32.wrap 6 = 6 := rfl
theorem wrap7 : IntKind.i32.wrap 7 = 7 := rfl
attribute [local go_sem] wrap0 wrap1 wrap2 wrap3 wrap4 wrap5 wrap6 wrap7
set_option maxRecDepth 100000 in
set_option maxHeartbeats 2000000 in
theorem op6_st0 (hS : PSt Bb lo ins s w) (hB : PB s) (hsn : s.seen = true) (a b c : Int) (ha : -1000 ≤ a ∧ a ≤ 1000) (hb : -1000 ≤ b ∧ b ≤ 1000) (hc : -1000 ≤ c ∧ c ≤ 1000) (hst : s.stk = [a, b, c]) :
    Calls Tryz.prog 59 #[.pointer (some ⟨Bb, 514, none⟩), .bool false] w (PTo Bb lo ins (lnP c 0 (lnP 0 b (lnP a 0 s))) w .nilIface) := by
  obtain ⟨⟨bx1, bx2⟩, ⟨by1, by2⟩, bn⟩ := hB
  have HM0 : Hid (∀ W, PSt Bb lo ins s W → Calls Tryz.prog 58 #[.pointer (some ⟨Bb, 659, none⟩), .int .i32 a, .int .i32 0] W (PTo Bb lo ins (lnP a 0 s) W (.tuple #[]))) := Lib.hid fun W h => lineTo_st h a 0 ⟨by (try simp only [lnP, cvP]); omega, by (try simp only [lnP, cvP]); omega⟩ ⟨by (try simp only [lnP, cvP]); omega, by (try simp only [lnP, cvP]); omega⟩ ha (by omega) (by (try simp only [lnP, cvP, List.length_append, List.length_cons, List.length_nil]); omega)
  have HM1 : Hid (∀ W, PSt Bb lo ins (lnP a 0 s) W → Calls Tryz.prog 58 #[.pointer (some ⟨Bb, 659, none⟩), .int .i32 0, .int .i32 b] W (PTo Bb lo ins (lnP 0 b (lnP a 0 s)) W (.tuple #[]))) := Lib.hid fun W h => lineTo_st h 0 b ⟨by (try simp only [lnP]); omega, by (try simp only [lnP]); omega⟩ ⟨by (try simp only [lnP]); omega, by (try simp only [lnP]); omega⟩ (by omega) hb (by (try simp only [lnP, List.length_append, List.length_cons, List.length_nil]); omega)
  have HM2 : Hid (∀ W, PSt Bb lo ins (lnP 0 b (lnP a 0 s)) W → Calls Tryz.prog 58 #[.pointer (some ⟨Bb, 659, none⟩), .int .i32 c, .int .i32 0] W (PTo Bb lo ins (lnP c 0 (lnP 0 b (lnP a 0 s))) W (.tuple #[]))) := Lib.hid fun W h => lineTo_st h c 0 ⟨by (try simp only [lnP]); omega, by (try simp only [lnP]); omega⟩ ⟨by (try simp only [lnP]); omega, by (try simp only [lnP]); omega⟩ hc (by omega) (by (try simp only [lnP, List.length_append, List.length_cons, List.length_nil]); omega)
  clear bx1 bx2 by1 by2 bn ha hb hc
  have h666 := hS.cell.2.2.2.2.2.2.2.2.2.1
  rw [hsn] at h666
  have h566 : w.cell? ⟨Bb, 566, none⟩ = some (.int .i32 3) := by have := hS.cell.2.2.1; (try simp only [hst] at this); exact this
  have h518 : w.cell? ⟨Bb, 518, none⟩ = some (.int .i32 a) := hS.arg (i := 0) (by (try simp only [hst]); rfl)
  have h519 : w.cell? ⟨Bb, 519, none⟩ = some (.int .i32 b) := hS.arg (i := 1) (by (try simp only [hst]); rfl)
  have h520 : w.cell? ⟨Bb, 520, none⟩ = some (.int .i32 c) := hS.arg (i := 2) (by (try simp only [hst]); rfl)
  go_enter Tryz.func59, Tryz.ntmps59
  go_wp2_with fail
  refine wp_loop_rounds 4 ?_
  rw [rounds_succ]
  go_wp2_with fail
  refine (HM0.out _ hS).mono ?_
  clear h666
  clear h566 h518 h519 h520
  rintro e w1 ⟨rfl, hS1, hF1⟩
  have h566 : w1.cell? ⟨Bb, 566, none⟩ = some (.int .i32 3) := by have := hS1.cell.2.2.1; (try simp only [lnP, hst] at this); exact this
  have h518 : w1.cell? ⟨Bb, 518, none⟩ = some (.int .i32 a) := hS1.arg (i := 0) (by (try simp only [lnP, hst]); rfl)
  have h519 : w1.cell? ⟨Bb, 519, none⟩ = some (.int .i32 b) := hS1.arg (i := 1) (by (try simp only [lnP, hst]); rfl)
  have h520 : w1.cell? ⟨Bb, 520, none⟩ = some (.int .i32 c) := hS1.arg (i := 2) (by (try simp only [lnP, hst]); rfl)
  go_wp2_with fail
  rw [rounds_succ]
  go_wp2_with fail
  refine (HM1.out _ hS1).mono ?_
  clear h566 h518 h519 h520
  rintro e w2 ⟨rfl, hS2, hF2⟩
  have h566 : w2.cell? ⟨Bb, 566, none⟩ = some (.int .i32 3) := by have := hS2.cell.2.2.1; (try simp only [lnP, hst] at this); exact this
  have h518 : w2.cell? ⟨Bb, 518, none⟩ = some (.int .i32 a) := hS2.arg (i := 0) (by (try simp only [lnP, hst]); rfl)
  have h519 : w2.cell? ⟨Bb, 519, none⟩ = some (.int .i32 b) := hS2.arg (i := 1) (by (try simp only [lnP, hst]); rfl)
  have h520 : w2.cell? ⟨Bb, 520, none⟩ = some (.int .i32 c) := hS2.arg (i := 2) (by (try simp only [lnP, hst]); rfl)
  go_wp2_with fail
  rw [rounds_succ]
  go_wp2_with fail
  refine (HM2.out _ hS2).mono ?_
  clear h566 h518 h519 h520
  rintro e w3 ⟨rfl, hS3, hF3⟩
  have h566 : w3.cell? ⟨Bb, 566, none⟩ = some (.int .i32 3) := by have := hS3.cell.2.2.1; (try simp only [lnP, hst] at this); exact this
  have h518 : w3.cell? ⟨Bb, 518, none⟩ = some (.int .i32 a) := hS3.arg (i := 0) (by (try simp only [lnP, hst]); rfl)
  have h519 : w3.cell? ⟨Bb, 519, none⟩ = some (.int .i32 b) := hS3.arg (i := 1) (by (try simp only [lnP, hst]); rfl)
  have h520 : w3.cell? ⟨Bb, 520, none⟩ = some (.int .i32 c) := hS3.arg (i := 2) (by (try simp only [lnP, hst]); rfl)
  go_wp2_with fail
  rw [rounds_succ]
  go_wp2_with fail
  go_ret
  exact ⟨rfl, hS3, (hF1.trans (hF2.trans hF3))⟩

set_option maxRecDepth 100000 in
set_option maxHeartbeats 2000000 in
theorem op7_st0 (hS : PSt Bb lo ins s w) (hB : PB s) (hsn : s.seen = true) (a b c : Int) (ha : -1000 ≤ a ∧ a ≤ 1000) (hb : -1000 ≤ b ∧ b ≤ 1000) (hc : -1000 ≤ c ∧ c ≤ 1000) (hst : s.stk = [a, b, c]) :
    Calls Tryz.prog 59 #[.pointer (some ⟨Bb, 514, none⟩), .bool true] w (PTo Bb lo ins (lnP 0 c (lnP b 0 (lnP 0 a s))) w .nilIface) := by
  obtain ⟨⟨bx1, bx2⟩, ⟨by1, by2⟩, bn⟩ := hB
  have HM0 : Hid (∀ W, PSt Bb lo ins s W → Calls Tryz.prog 58 #[.pointer (some ⟨Bb, 659, none⟩), .int .i32 0, .int .i32 a] W (PTo Bb lo ins (lnP 0 a s) W (.tuple #[]))) := Lib.hid fun W h => lineTo_st h 0 a ⟨by (try simp only [lnP, cvP]); omega, by (try simp only [lnP, cvP]); omega⟩ ⟨by (try simp only [lnP, cvP]); omega, by (try simp only [lnP, cvP]); omega⟩ (by omega) ha (by (try simp only [lnP, cvP, List.length_append, List.length_cons, List.length_nil]); omega)
  have HM1 : Hid (∀ W, PSt Bb lo ins (lnP 0 a s) W → Calls Tryz.prog 58 #[.pointer (some ⟨Bb, 659, none⟩), .int .i32 b, .int .i32 0] W (PTo Bb lo ins (lnP b 0 (lnP 0 a s)) W (.tuple #[]))) := Lib.hid fun W h => lineTo_st h b 0 ⟨by (try simp only [lnP]); omega, by (try simp only [lnP]); omega⟩ ⟨by (try simp only [lnP]); omega, by (try simp only [lnP]); omega⟩ hb (by omega) (by (try simp only [lnP, List.length_append, List.length_cons, List.length_nil]); omega)
  have HM2 : Hid (∀ W, PSt Bb lo ins (lnP b 0 (lnP 0 a s)) W → Calls Tryz.prog 58 #[.pointer (some ⟨Bb, 659, none⟩), .int .i32 0, .int .i32 c] W (PTo Bb lo ins (lnP 0 c (lnP b 0 (lnP 0 a s))) W (.tuple #[]))) := Lib.hid fun W h => lineTo_st h 0 c ⟨by (try simp only [lnP]); omega, by (try simp only [lnP]); omega⟩ ⟨by (try simp only [lnP]); omega, by (try simp only [lnP]); omega⟩ (by omega) hc (by (try simp only [lnP, List.length_append, List.length_cons, List.length_nil]); omega)
  clear bx1 bx2 by1 by2 bn ha hb hc
  have h666 := hS.cell.2.2.2.2.2.2.2.2.2.1
  rw [hsn] at h666
  have h566 : w.cell? ⟨Bb, 566, none⟩ = some (.int .i32 3) := by have := hS.cell.2.2.1; (try simp only [hst] at this); exact this
  have h518 : w.cell? ⟨Bb, 518, none⟩ = some (.int .i32 a) := hS.arg (i := 0) (by (try simp only [hst]); rfl)
  have h519 : w.cell? ⟨Bb, 519, none⟩ = some (.int .i32 b) := hS.arg (i := 1) (by (try simp only [hst]); rfl)
  have h520 : w.cell? ⟨Bb, 520, none⟩ = some (.int .i32 c) := hS.arg (i := 2) (by (try simp only [hst]); rfl)
  go_enter Tryz.func59, Tryz.ntmps59
  go_wp2_with fail
  refine wp_loop_rounds 4 ?_
  rw [rounds_succ]
  go_wp2_with fail
  refine (HM0.out _ hS).mono ?_
  clear h666
  clear h566 h518 h519 h520
  rintro e w1 ⟨rfl, hS1, hF1⟩
  have h566 : w1.cell? ⟨Bb, 566, none⟩ = some (.int .i32 3) := by have := hS1.cell.2.2.1; (try simp only [lnP, hst] at this); exact this
  have h518 : w1.cell? ⟨Bb, 518, none⟩ = some (.int .i32 a) := hS1.arg (i := 0) (by (try simp only [lnP, hst]); rfl)
  have h519 : w1.cell? ⟨Bb, 519, none⟩ = some (.int .i32 b) := hS1.arg (i := 1) (by (try simp only [lnP, hst]); rfl)
  have h520 : w1.cell? ⟨Bb, 520, none⟩ = some (.int .i32 c) := hS1.arg (i := 2) (by (try simp only [lnP, hst]); rfl)
  go_wp2_with fail
  rw [rounds_succ]
  go_wp2_with fail
  refine (HM1.out _ hS1).mono ?_
  clear h566 h518 h519 h520
  rintro e w2 ⟨rfl, hS2, hF2⟩
  have h566 : w2.cell? ⟨Bb, 566, none⟩ = some (.int .i32 3) := by have := hS2.cell.2.2.1; (try simp only [lnP, hst] at this); exact this
  have h518 : w2.cell? ⟨Bb, 518, none⟩ = some (.int .i32 a) := hS2.arg (i := 0) (by (try simp only [lnP, hst]); rfl)
  have h519 : w2.cell? ⟨Bb, 519, none⟩ = some (.int .i32 b) := hS2.arg (i := 1) (by (try simp only [lnP, hst]); rfl)
  have h520 : w2.cell? ⟨Bb, 520, none⟩ = some (.int .i32 c) := hS2.arg (i := 2) (by (try simp only [lnP, hst]); rfl)
  go_wp2_with fail
  rw [rounds_succ]
  go_wp2_with fail
  refine (HM2.out _ hS2).mono ?_
  clear h566 h518 h519 h520
  rintro e w3 ⟨rfl, hS3, hF3⟩
  have h566 : w3.cell? ⟨Bb, 566, none⟩ = some (.int .i32 3) := by have := hS3.cell.2.2.1; (try simp only [lnP, hst] at this); exact this
  have h518 : w3.cell? ⟨Bb, 518, none⟩ = some (.int .i32 a) := hS3.arg (i := 0) (by (try simp only [lnP, hst]); rfl)
  have h519 : w3.cell? ⟨Bb, 519, none⟩ = some (.int .i32 b) := hS3.arg (i := 1) (by (try simp only [lnP, hst]); rfl)
  have h520 : w3.cell? ⟨Bb, 520, none⟩ = some (.int .i32 c) := hS3.arg (i := 2) (by (try simp only [lnP, hst]); rfl)
  go_wp2_with fail
  rw [rounds_succ]
  go_wp2_with fail
  go_ret
  exact ⟨rfl, hS3, (hF1.trans (hF2.trans hF3))⟩

set_option maxRecDepth 100000 in
set_option maxHeartbeats 2000000 in
theorem op5_st (hS : PSt Bb lo ins s w) (hB : PB s) (hsn : s.seen = true) (a b c d : Int) (ha : -1000 ≤ a ∧ a ≤ 1000) (hb : -1000 ≤ b ∧ b ≤ 1000) (hc : -1000 ≤ c ∧ c ≤ 1000) (hd : -1000 ≤ d ∧ d ≤ 1000) (hst : s.stk = [a, b, c, d]) :
    Calls Tryz.prog 35 #[.pointer (some ⟨Bb, 514, none⟩)] w (PTo Bb lo ins (lnP c d (lnP a b s)) w .nilIface) := by
  obtain ⟨⟨bx1, bx2⟩, ⟨by1, by2⟩, bn⟩ := hB
  have HM0 : Hid (∀ W, PSt Bb lo ins s W → Calls Tryz.prog 58 #[.pointer (some ⟨Bb, 659, none⟩), .int .i32 a, .int .i32 b] W (PTo Bb lo ins (lnP a b s) W (.tuple #[]))) := Lib.hid fun W h => lineTo_st h a b ⟨by (try simp only [lnP, cvP]); omega, by (try simp only [lnP, cvP]); omega⟩ ⟨by (try simp only [lnP, cvP]); omega, by (try simp only [lnP, cvP]); omega⟩ ha hb (by (try simp only [lnP, cvP, List.length_append, List.length_cons, List.length_nil]); omega)
  have HM1 : Hid (∀ W, PSt Bb lo ins (lnP a b s) W → Calls Tryz.prog 58 #[.pointer (some ⟨Bb, 659, none⟩), .int .i32 c, .int .i32 d] W (PTo Bb lo ins (lnP c d (lnP a b s)) W (.tuple #[]))) := Lib.hid fun W h => lineTo_st h c d ⟨by (try simp only [lnP]); omega, by (try simp only [lnP]); omega⟩ ⟨by (try simp only [lnP]); omega, by (try simp only [lnP]); omega⟩ hc hd (by (try simp only [lnP, List.length_append, List.length_cons, List.length_nil]); omega)
  clear bx1 bx2 by1 by2 bn ha hb hc hd
  have h666 := hS.cell.2.2.2.2.2.2.2.2.2.1
  rw [hsn] at h666
  have h566 : w.cell? ⟨Bb, 566, none⟩ = some (.int .i32 4) := by have := hS.cell.2.2.1; (try simp only [hst] at this); exact this
  have h518 : w.cell? ⟨Bb, 518, none⟩ = some (.int .i32 a) := hS.arg (i := 0) (by (try simp only [hst]); rfl)
  have h519 : w.cell? ⟨Bb, 519, none⟩ = some (.int .i32 b) := hS.arg (i := 1) (by (try simp only [hst]); rfl)
  have h520 : w.cell? ⟨Bb, 520, none⟩ = some (.int .i32 c) := hS.arg (i := 2) (by (try simp only [hst]); rfl)
  have h521 : w.cell? ⟨Bb, 521, none⟩ = some (.int .i32 d) := hS.arg (i := 3) (by (try simp only [hst]); rfl)
  go_enter Tryz.func35, Tryz.ntmps35
  go_wp2_with fail
  refine wp_loop_rounds 3 ?_
  rw [rounds_succ]
  go_upto_region 6 with (fail)
  refine wp_region_still_tail 18 (by kernel_rfl) (by kernel_rfl) ?_
  change wpStill _ _ (World.drew w) (fun a' => wpList _ _ _ _ a' (World.drew w)) _ _
  simp only [List.take_succ_cons, List.take_zero, List.drop_succ_cons, List.drop_zero]
  iterate 18 (refine' wpS_one (by rfl) ?_ ?_; rotate_left; (focus (go_simp; with_reducible rfl)); simp only [Act.put, List.setIfInBounds_toArray, List.set_cons_zero, List.set_cons_succ])
  refine wpStill_nil ?_
  go_wp2_with fail
  refine (HM0.out _ hS.drew).mono ?_
  clear h666
  clear h566 h518 h519 h520 h521
  rintro e w1 ⟨rfl, hS1, hF1⟩
  have h566 : w1.cell? ⟨Bb, 566, none⟩ = some (.int .i32 4) := by have := hS1.cell.2.2.1; (try simp only [lnP, hst] at this); exact this
  have h518 : w1.cell? ⟨Bb, 518, none⟩ = some (.int .i32 a) := hS1.arg (i := 0) (by (try simp only [lnP, hst]); rfl)
  have h519 : w1.cell? ⟨Bb, 519, none⟩ = some (.int .i32 b) := hS1.arg (i := 1) (by (try simp only [lnP, hst]); rfl)
  have h520 : w1.cell? ⟨Bb, 520, none⟩ = some (.int .i32 c) := hS1.arg (i := 2) (by (try simp only [lnP, hst]); rfl)
  have h521 : w1.cell? ⟨Bb, 521, none⟩ = some (.int .i32 d) := hS1.arg (i := 3) (by (try simp only [lnP, hst]); rfl)
  go_wp2_with fail
  rw [rounds_succ]
  go_upto_region 6 with (fail)
  refine wp_region_still_tail 18 (by kernel_rfl) (by kernel_rfl) ?_
  change wpStill _ _ (World.drew w1) (fun a' => wpList _ _ _ _ a' (World.drew w1)) _ _
  simp only [List.take_succ_cons, List.take_zero, List.drop_succ_cons, List.drop_zero]
  iterate 18 (refine' wpS_one (by rfl) ?_ ?_; rotate_left; (focus (go_simp; with_reducible rfl)); simp only [Act.put, List.setIfInBounds_toArray, List.set_cons_zero, List.set_cons_succ])
  refine wpStill_nil ?_
  go_wp2_with fail
  refine (HM1.out _ hS1.drew).mono ?_
  clear h566 h518 h519 h520 h521
  rintro e w2 ⟨rfl, hS2, hF2⟩
  have h566 : w2.cell? ⟨Bb, 566, none⟩ = some (.int .i32 4) := by have := hS2.cell.2.2.1; (try simp only [lnP, hst] at this); exact this
  have h518 : w2.cell? ⟨Bb, 518, none⟩ = some (.int .i32 a) := hS2.arg (i := 0) (by (try simp only [lnP, hst]); rfl)
  have h519 : w2.cell? ⟨Bb, 519, none⟩ = some (.int .i32 b) := hS2.arg (i := 1) (by (try simp only [lnP, hst]); rfl)
  have h520 : w2.cell? ⟨Bb, 520, none⟩ = some (.int .i32 c) := hS2.arg (i := 2) (by (try simp only [lnP, hst]); rfl)
  have h521 : w2.cell? ⟨Bb, 521, none⟩ = some (.int .i32 d) := hS2.arg (i := 3) (by (try simp only [lnP, hst]); rfl)
  go_wp2_with fail
  rw [rounds_succ]
  go_wp2_with fail
  go_ret
  exact ⟨rfl, hS2, (((PFrm.drew _ _ _).trans hF1).trans ((PFrm.drew _ _ _).trans hF2))⟩

set_option maxRecDepth 100000 in
set_option maxHeartbeats 2000000 in
theorem op8_st (hS : PSt Bb lo ins s w) (hB : PB s) (hsn : s.seen = true) (a b c d e f : Int) (ha : -1000 ≤ a ∧ a ≤ 1000) (hb : -1000 ≤ b ∧ b ≤ 1000) (hc : -1000 ≤ c ∧ c ≤ 1000) (hd : -1000 ≤ d ∧ d ≤ 1000) (he : -1000 ≤ e ∧ e ≤ 1000) (hf : -1000 ≤ f ∧ f ≤ 1000) (hst : s.stk = [a, b, c, d, e, f]) :
    Calls Tryz.prog 38 #[.pointer (some ⟨Bb, 514, none⟩)] w (PTo Bb lo ins (cvP a b c d e f s) w .nilIface) := by
  obtain ⟨⟨bx1, bx2⟩, ⟨by1, by2⟩, bn⟩ := hB
  have HM0 : Hid (∀ W, PSt Bb lo ins s W → Calls Tryz.prog 60 #[.pointer (some ⟨Bb, 659, none⟩), .int .i32 a, .int .i32 b, .int .i32 c, .int .i32 d, .int .i32 e, .int .i32 f] W (PTo Bb lo ins (cvP a b c d e f s) W (.tuple #[]))) := Lib.hid fun W h => cubeTo_st h a b c d e f ⟨by (try simp only [lnP, cvP]); omega, by (try simp only [lnP, cvP]); omega⟩ ⟨by (try simp only [lnP, cvP]); omega, by (try simp only [lnP, cvP]); omega⟩ ha hb hc hd he hf (by (try simp only [lnP, cvP, List.length_append, List.length_cons, List.length_nil]); omega)
  clear bx1 bx2 by1 by2 bn ha hb hc hd he hf
  have h666 := hS.cell.2.2.2.2.2.2.2.2.2.1
  rw [hsn] at h666
  have h566 : w.cell? ⟨Bb, 566, none⟩ = some (.int .i32 6) := by have := hS.cell.2.2.1; (try simp only [hst] at this); exact this
  have h518 : w.cell? ⟨Bb, 518, none⟩ = some (.int .i32 a) := hS.arg (i := 0) (by (try simp only [hst]); rfl)
  have h519 : w.cell? ⟨Bb, 519, none⟩ = some (.int .i32 b) := hS.arg (i := 1) (by (try simp only [hst]); rfl)
  have h520 : w.cell? ⟨Bb, 520, none⟩ = some (.int .i32 c) := hS.arg (i := 2) (by (try simp only [hst]); rfl)
  have h521 : w.cell? ⟨Bb, 521, none⟩ = some (.int .i32 d) := hS.arg (i := 3) (by (try simp only [hst]); rfl)
  have h522 : w.cell? ⟨Bb, 522, none⟩ = some (.int .i32 e) := hS.arg (i := 4) (by (try simp only [hst]); rfl)
  have h523 : w.cell? ⟨Bb, 523, none⟩ = some (.int .i32 f) := hS.arg (i := 5) (by (try simp only [hst]); rfl)
  go_enter Tryz.func38, Tryz.ntmps38
  go_wp2_with fail
  refine wp_loop_rounds 2 ?_
  rw [rounds_succ]
  go_upto_region 6 with (fail)
  refine wp_region_still_tail 51 (by kernel_rfl) (by kernel_rfl) ?_
  change wpStill _ _ (World.drew w) (fun a' => wpList _ _ _ _ a' (World.drew w)) _ _
  simp only [List.take_succ_cons, List.take_zero, List.drop_succ_cons, List.drop_zero]
  iterate 51 (refine' wpS_one (by rfl) ?_ ?_; rotate_left; (focus (go_simp; with_reducible rfl)); simp only [Act.put, List.setIfInBounds_toArray, List.set_cons_zero, List.set_cons_succ])
  refine wpStill_nil ?_
  go_wp2_with fail
  refine (HM0.out _ hS.drew).mono ?_
  clear h666
  clear h566 h518 h519 h520 h521 h522 h523
  rintro e w1 ⟨rfl, hS1, hF1⟩
  have h566 : w1.cell? ⟨Bb, 566, none⟩ = some (.int .i32 6) := by have := hS1.cell.2.2.1; (try simp only [cvP, hst] at this); exact this
  have h518 : w1.cell? ⟨Bb, 518, none⟩ = some (.int .i32 a) := hS1.arg (i := 0) (by (try simp only [lnP, cvP, hst]); rfl)
  have h519 : w1.cell? ⟨Bb, 519, none⟩ = some (.int .i32 b) := hS1.arg (i := 1) (by (try simp only [lnP, cvP, hst]); rfl)
  have h520 : w1.cell? ⟨Bb, 520, none⟩ = some (.int .i32 c) := hS1.arg (i := 2) (by (try simp only [lnP, cvP, hst]); rfl)
  have h521 : w1.cell? ⟨Bb, 521, none⟩ = some (.int .i32 d) := hS1.arg (i := 3) (by (try simp only [lnP, cvP, hst]); rfl)
  have h522 : w1.cell? ⟨Bb, 522, none⟩ = some (.int .i32 e) := hS1.arg (i := 4) (by (try simp only [lnP, cvP, hst]); rfl)
  have h523 : w1.cell? ⟨Bb, 523, none⟩ = some (.int .i32 f) := hS1.arg (i := 5) (by (try simp only [lnP, cvP, hst]); rfl)
  go_wp2_with fail
  rw [rounds_succ]
  go_wp2_with fail
  go_ret
  exact ⟨rfl, hS1, ((PFrm.drew _ _ _).trans hF1)⟩

set_option maxRecDepth 100000 in
set_option maxHeartbeats 2000000 in
theorem op24_st (hS : PSt Bb lo ins s w) (hB : PB s) (hsn : s.seen = true) (a b c d e f : Int) (ha : -1000 ≤ a ∧ a ≤ 1000) (hb : -1000 ≤ b ∧ b ≤ 1000) (hc : -1000 ≤ c ∧ c ≤ 1000) (hd : -1000 ≤ d ∧ d ≤ 1000) (he : -1000 ≤ e ∧ e ≤ 1000) (hf : -1000 ≤ f ∧ f ≤ 1000) (hst : s.stk = [a, b, c, d, e, f, b, a]) :
    Calls Tryz.prog 45 #[.pointer (some ⟨Bb, 514, none⟩)] w (PTo Bb lo ins (lnP b a (cvP a b c d e f s)) w .nilIface) := by
  obtain ⟨⟨bx1, bx2⟩, ⟨by1, by2⟩, bn⟩ := hB
  have HM0 : Hid (∀ W, PSt Bb lo ins s W → Calls Tryz.prog 60 #[.pointer (some ⟨Bb, 659, none⟩), .int .i32 a, .int .i32 b, .int .i32 c, .int .i32 d, .int .i32 e, .int .i32 f] W (PTo Bb lo ins (cvP a b c d e f s) W (.tuple #[]))) := Lib.hid fun W h => cubeTo_st h a b c d e f ⟨by (try simp only [lnP, cvP]); omega, by (try simp only [lnP, cvP]); omega⟩ ⟨by (try simp only [lnP, cvP]); omega, by (try simp only [lnP, cvP]); omega⟩ ha hb hc hd he hf (by (try simp only [lnP, cvP, List.length_append, List.length_cons, List.length_nil]); omega)
  have HM1 : Hid (∀ W, PSt Bb lo ins (cvP a b c d e f s) W → Calls Tryz.prog 58 #[.pointer (some ⟨Bb, 659, none⟩), .int .i32 b, .int .i32 a] W (PTo Bb lo ins (lnP b a (cvP a b c d e f s)) W (.tuple #[]))) := Lib.hid fun W h => lineTo_st h b a ⟨by (try simp only [lnP, cvP]); omega, by (try simp only [lnP, cvP]); omega⟩ ⟨by (try simp only [lnP, cvP]); omega, by (try simp only [lnP, cvP]); omega⟩ hb ha (by (try simp only [lnP, cvP, List.length_append, List.length_cons, List.length_nil]); omega)
  clear bx1 bx2 by1 by2 bn ha hb hc hd he hf
  have h666 := hS.cell.2.2.2.2.2.2.2.2.2.1
  rw [hsn] at h666
  have h566 : w.cell? ⟨Bb, 566, none⟩ = some (.int .i32 8) := by have := hS.cell.2.2.1; (try simp only [lnP, cvP, hst] at this); exact this
  have h518 : w.cell? ⟨Bb, 518, none⟩ = some (.int .i32 a) := hS.arg (i := 0) (by (try simp only [lnP, cvP, hst]); rfl)
  have h519 : w.cell? ⟨Bb, 519, none⟩ = some (.int .i32 b) := hS.arg (i := 1) (by (try simp only [lnP, cvP, hst]); rfl)
  have h520 : w.cell? ⟨Bb, 520, none⟩ = some (.int .i32 c) := hS.arg (i := 2) (by (try simp only [lnP, cvP, hst]); rfl)
  have h521 : w.cell? ⟨Bb, 521, none⟩ = some (.int .i32 d) := hS.arg (i := 3) (by (try simp only [lnP, cvP, hst]); rfl)
  have h522 : w.cell? ⟨Bb, 522, none⟩ = some (.int .i32 e) := hS.arg (i := 4) (by (try simp only [lnP, cvP, hst]); rfl)
  have h523 : w.cell? ⟨Bb, 523, none⟩ = some (.int .i32 f) := hS.arg (i := 5) (by (try simp only [lnP, cvP, hst]); rfl)
  have h524 : w.cell? ⟨Bb, 524, none⟩ = some (.int .i32 b) := hS.arg (i := 6) (by (try simp only [lnP, cvP, hst]); rfl)
  have h525 : w.cell? ⟨Bb, 525, none⟩ = some (.int .i32 a) := hS.arg (i := 7) (by (try simp only [lnP, cvP, hst]); rfl)
  go_enter Tryz.func45, Tryz.ntmps45
  go_wp2_with fail
  refine wp_loop_rounds 2 ?_
  rw [rounds_succ]
  go_upto_region 7 with (fail)
  refine wp_region_still_tail 51 (by kernel_rfl) (by kernel_rfl) ?_
  change wpStill _ _ (World.drew w) (fun a' => wpList _ _ _ _ a' (World.drew w)) _ _
  simp only [List.take_succ_cons, List.take_zero, List.drop_succ_cons, List.drop_zero]
  iterate 51 (refine' wpS_one (by rfl) ?_ ?_; rotate_left; (focus (go_simp; with_reducible rfl)); simp only [Act.put, List.setIfInBounds_toArray, List.set_cons_zero, List.set_cons_succ])
  refine wpStill_nil ?_
  go_wp2_with fail
  refine (HM0.out _ hS.drew).mono ?_
  clear h666
  clear h566 h518 h519 h520 h521 h522 h523 h524 h525
  rintro e w1 ⟨rfl, hS1, hF1⟩
  have h566 : w1.cell? ⟨Bb, 566, none⟩ = some (.int .i32 8) := by have := hS1.cell.2.2.1; (try simp only [lnP, cvP, hst] at this); exact this
  have h518 : w1.cell? ⟨Bb, 518, none⟩ = some (.int .i32 a) := hS1.arg (i := 0) (by (try simp only [lnP, cvP, hst]); rfl)
  have h519 : w1.cell? ⟨Bb, 519, none⟩ = some (.int .i32 b) := hS1.arg (i := 1) (by (try simp only [lnP, cvP, hst]); rfl)
  have h520 : w1.cell? ⟨Bb, 520, none⟩ = some (.int .i32 c) := hS1.arg (i := 2) (by (try simp only [lnP, cvP, hst]); rfl)
  have h521 : w1.cell? ⟨Bb, 521, none⟩ = some (.int .i32 d) := hS1.arg (i := 3) (by (try simp only [lnP, cvP, hst]); rfl)
  have h522 : w1.cell? ⟨Bb, 522, none⟩ = some (.int .i32 e) := hS1.arg (i := 4) (by (try simp only [lnP, cvP, hst]); rfl)
  have h523 : w1.cell? ⟨Bb, 523, none⟩ = some (.int .i32 f) := hS1.arg (i := 5) (by (try simp only [lnP, cvP, hst]); rfl)
  have h524 : w1.cell? ⟨Bb, 524, none⟩ = some (.int .i32 b) := hS1.arg (i := 6) (by (try simp only [lnP, cvP, hst]); rfl)
  have h525 : w1.cell? ⟨Bb, 525, none⟩ = some (.int .i32 a) := hS1.arg (i := 7) (by (try simp only [lnP, cvP, hst]); rfl)
  go_wp2_with fail
  rw [rounds_succ]
  go_upto_region 8 with (fail)
  refine wp_region_still_tail 18 (by kernel_rfl) (by kernel_rfl) ?_
  change wpStill _ _ (World.drew w1) (fun a' => wpList _ _ _ _ a' (World.drew w1)) _ _
  simp only [List.take_succ_cons, List.take_zero, List.drop_succ_cons, List.drop_zero]
  iterate 18 (refine' wpS_one (by rfl) ?_ ?_; rotate_left; (focus (go_simp; with_reducible rfl)); simp only [Act.put, List.setIfInBounds_toArray, List.set_cons_zero, List.set_cons_succ])
  refine wpStill_nil ?_
  go_wp2_with fail
  refine (HM1.out _ hS1.drew).mono ?_
  clear h566 h518 h519 h520 h521 h522 h523 h524 h525
  rintro e w2 ⟨rfl, hS2, hF2⟩
  have h566 : w2.cell? ⟨Bb, 566, none⟩ = some (.int .i32 8) := by have := hS2.cell.2.2.1; (try simp only [lnP, cvP, hst] at this); exact this
  have h518 : w2.cell? ⟨Bb, 518, none⟩ = some (.int .i32 a) := hS2.arg (i := 0) (by (try simp only [lnP, cvP, hst]); rfl)
  have h519 : w2.cell? ⟨Bb, 519, none⟩ = some (.int .i32 b) := hS2.arg (i := 1) (by (try simp only [lnP, cvP, hst]); rfl)
  have h520 : w2.cell? ⟨Bb, 520, none⟩ = some (.int .i32 c) := hS2.arg (i := 2) (by (try simp only [lnP, cvP, hst]); rfl)
  have h521 : w2.cell? ⟨Bb, 521, none⟩ = some (.int .i32 d) := hS2.arg (i := 3) (by (try simp only [lnP, cvP, hst]); rfl)
  have h522 : w2.cell? ⟨Bb, 522, none⟩ = some (.int .i32 e) := hS2.arg (i := 4) (by (try simp only [lnP, cvP, hst]); rfl)
  have h523 : w2.cell? ⟨Bb, 523, none⟩ = some (.int .i32 f) := hS2.arg (i := 5) (by (try simp only [lnP, cvP, hst]); rfl)
  have h524 : w2.cell? ⟨Bb, 524, none⟩ = some (.int .i32 b) := hS2.arg (i := 6) (by (try simp only [lnP, cvP, hst]); rfl)
  have h525 : w2.cell? ⟨Bb, 525, none⟩ = some (.int .i32 a) := hS2.arg (i := 7) (by (try simp only [lnP, cvP, hst]); rfl)
  go_wp2_with fail
  go_ret
  exact ⟨rfl, hS2, (((PFrm.drew _ _ _).trans hF1).trans ((PFrm.drew _ _ _).trans hF2))⟩

set_option maxRecDepth 100000 in
set_option maxHeartbeats 2000000 in
theorem op25_st (hS : PSt Bb lo ins s w) (hB : PB s) (hsn : s.seen = true) (b a c d e f : Int) (hb : -1000 ≤ b ∧ b ≤ 1000) (ha : -1000 ≤ a ∧ a ≤ 1000) (hc : -1000 ≤ c ∧ c ≤ 1000) (hd : -1000 ≤ d ∧ d ≤ 1000) (he : -1000 ≤ e ∧ e ≤ 1000) (hf : -1000 ≤ f ∧ f ≤ 1000) (hst : s.stk = [b, a, a, b, c, d, e, f]) :
    Calls Tryz.prog 46 #[.pointer (some ⟨Bb, 514, none⟩)] w (PTo Bb lo ins (cvP a b c d e f (lnP b a s)) w .nilIface) := by
  obtain ⟨⟨bx1, bx2⟩, ⟨by1, by2⟩, bn⟩ := hB
  have HM0 : Hid (∀ W, PSt Bb lo ins s W → Calls Tryz.prog 58 #[.pointer (some ⟨Bb, 659, none⟩), .int .i32 b, .int .i32 a] W (PTo Bb lo ins (lnP b a s) W (.tuple #[]))) := Lib.hid fun W h => lineTo_st h b a ⟨by (try simp only [lnP, cvP]); omega, by (try simp only [lnP, cvP]); omega⟩ ⟨by (try simp only [lnP, cvP]); omega, by (try simp only [lnP, cvP]); omega⟩ hb ha (by (try simp only [lnP, cvP, List.length_append, List.length_cons, List.length_nil]); omega)
  have HM1 : Hid (∀ W, PSt Bb lo ins (lnP b a s) W → Calls Tryz.prog 60 #[.pointer (some ⟨Bb, 659, none⟩), .int .i32 a, .int .i32 b, .int .i32 c, .int .i32 d, .int .i32 e, .int .i32 f] W (PTo Bb lo ins (cvP a b c d e f (lnP b a s)) W (.tuple #[]))) := Lib.hid fun W h => cubeTo_st h a b c d e f ⟨by (try simp only [lnP, cvP]); omega, by (try simp only [lnP, cvP]); omega⟩ ⟨by (try simp only [lnP, cvP]); omega, by (try simp only [lnP, cvP]); omega⟩ ha hb hc hd he hf (by (try simp only [lnP, cvP, List.length_append, List.length_cons, List.length_nil]); omega)
  clear bx1 bx2 by1 by2 bn hb ha hc hd he hf
  have h666 := hS.cell.2.2.2.2.2.2.2.2.2.1
  rw [hsn] at h666
  have h566 : w.cell? ⟨Bb, 566, none⟩ = some (.int .i32 8) := by have := hS.cell.2.2.1; (try simp only [lnP, cvP, hst] at this); exact this
  have h518 : w.cell? ⟨Bb, 518, none⟩ = some (.int .i32 b) := hS.arg (i := 0) (by (try simp only [lnP, cvP, hst]); rfl)
  have h519 : w.cell? ⟨Bb, 519, none⟩ = some (.int .i32 a) := hS.arg (i := 1) (by (try simp only [lnP, cvP, hst]); rfl)
  have h520 : w.cell? ⟨Bb, 520, none⟩ = some (.int .i32 a) := hS.arg (i := 2) (by (try simp only [lnP, cvP, hst]); rfl)
  have h521 : w.cell? ⟨Bb, 521, none⟩ = some (.int .i32 b) := hS.arg (i := 3) (by (try simp only [lnP, cvP, hst]); rfl)
  have h522 : w.cell? ⟨Bb, 522, none⟩ = some (.int .i32 c) := hS.arg (i := 4) (by (try simp only [lnP, cvP, hst]); rfl)
  have h523 : w.cell? ⟨Bb, 523, none⟩ = some (.int .i32 d) := hS.arg (i := 5) (by (try simp only [lnP, cvP, hst]); rfl)
  have h524 : w.cell? ⟨Bb, 524, none⟩ = some (.int .i32 e) := hS.arg (i := 6) (by (try simp only [lnP, cvP, hst]); rfl)
  have h525 : w.cell? ⟨Bb, 525, none⟩ = some (.int .i32 f) := hS.arg (i := 7) (by (try simp only [lnP, cvP, hst]); rfl)
  go_enter Tryz.func46, Tryz.ntmps46
  go_wp2_with fail
  refine wp_loop_rounds 2 ?_
  rw [rounds_succ]
  go_upto_region 7 with (fail)
  refine wp_region_still_tail 18 (by kernel_rfl) (by kernel_rfl) ?_
  change wpStill _ _ (World.drew w) (fun a' => wpList _ _ _ _ a' (World.drew w)) _ _
  simp only [List.take_succ_cons, List.take_zero, List.drop_succ_cons, List.drop_zero]
  iterate 18 (refine' wpS_one (by rfl) ?_ ?_; rotate_left; (focus (go_simp; with_reducible rfl)); simp only [Act.put, List.setIfInBounds_toArray, List.set_cons_zero, List.set_cons_succ])
  refine wpStill_nil ?_
  go_wp2_with fail
  refine (HM0.out _ hS.drew).mono ?_
  clear h666
  clear h566 h518 h519 h520 h521 h522 h523 h524 h525
  rintro e w1 ⟨rfl, hS1, hF1⟩
  have h566 : w1.cell? ⟨Bb, 566, none⟩ = some (.int .i32 8) := by have := hS1.cell.2.2.1; (try simp only [lnP, cvP, hst] at this); exact this
  have h518 : w1.cell? ⟨Bb, 518, none⟩ = some (.int .i32 b) := hS1.arg (i := 0) (by (try simp only [lnP, cvP, hst]); rfl)
  have h519 : w1.cell? ⟨Bb, 519, none⟩ = some (.int .i32 a) := hS1.arg (i := 1) (by (try simp only [lnP, cvP, hst]); rfl)
  have h520 : w1.cell? ⟨Bb, 520, none⟩ = some (.int .i32 a) := hS1.arg (i := 2) (by (try simp only [lnP, cvP, hst]); rfl)
  have h521 : w1.cell? ⟨Bb, 521, none⟩ = some (.int .i32 b) := hS1.arg (i := 3) (by (try simp only [lnP, cvP, hst]); rfl)
  have h522 : w1.cell? ⟨Bb, 522, none⟩ = some (.int .i32 c) := hS1.arg (i := 4) (by (try simp only [lnP, cvP, hst]); rfl)
  have h523 : w1.cell? ⟨Bb, 523, none⟩ = some (.int .i32 d) := hS1.arg (i := 5) (by (try simp only [lnP, cvP, hst]); rfl)
  have h524 : w1.cell? ⟨Bb, 524, none⟩ = some (.int .i32 e) := hS1.arg (i := 6) (by (try simp only [lnP, cvP, hst]); rfl)
  have h525 : w1.cell? ⟨Bb, 525, none⟩ = some (.int .i32 f) := hS1.arg (i := 7) (by (try simp only [lnP, cvP, hst]); rfl)
  go_wp2_with fail
  rw [rounds_succ]
  go_upto_region 8 with (fail)
  refine wp_region_still_tail 51 (by kernel_rfl) (by kernel_rfl) ?_
  change wpStill _ _ (World.drew w1) (fun a' => wpList _ _ _ _ a' (World.drew w1)) _ _
  simp only [List.take_succ_cons, List.take_zero, List.drop_succ_cons, List.drop_zero]
  iterate 51 (refine' wpS_one (by rfl) ?_ ?_; rotate_left; (focus (go_simp; with_reducible rfl)); simp only [Act.put, List.setIfInBounds_toArray, List.set_cons_zero, List.set_cons_succ])
  refine wpStill_nil ?_
  go_wp2_with fail
  refine (HM1.out _ hS1.drew).mono ?_
  clear h566 h518 h519 h520 h521 h522 h523 h524 h525
  rintro e w2 ⟨rfl, hS2, hF2⟩
  have h566 : w2.cell? ⟨Bb, 566, none⟩ = some (.int .i32 8) := by have := hS2.cell.2.2.1; (try simp only [lnP, cvP, hst] at this); exact this
  have h518 : w2.cell? ⟨Bb, 518, none⟩ = some (.int .i32 b) := hS2.arg (i := 0) (by (try simp only [lnP, cvP, hst]); rfl)
  have h519 : w2.cell? ⟨Bb, 519, none⟩ = some (.int .i32 a) := hS2.arg (i := 1) (by (try simp only [lnP, cvP, hst]); rfl)
  have h520 : w2.cell? ⟨Bb, 520, none⟩ = some (.int .i32 a) := hS2.arg (i := 2) (by (try simp only [lnP, cvP, hst]); rfl)
  have h521 : w2.cell? ⟨Bb, 521, none⟩ = some (.int .i32 b) := hS2.arg (i := 3) (by (try simp only [lnP, cvP, hst]); rfl)
  have h522 : w2.cell? ⟨Bb, 522, none⟩ = some (.int .i32 c) := hS2.arg (i := 4) (by (try simp only [lnP, cvP, hst]); rfl)
  have h523 : w2.cell? ⟨Bb, 523, none⟩ = some (.int .i32 d) := hS2.arg (i := 5) (by (try simp only [lnP, cvP, hst]); rfl)
  have h524 : w2.cell? ⟨Bb, 524, none⟩ = some (.int .i32 e) := hS2.arg (i := 6) (by (try simp only [lnP, cvP, hst]); rfl)
  have h525 : w2.cell? ⟨Bb, 525, none⟩ = some (.int .i32 f) := hS2.arg (i := 7) (by (try simp only [lnP, cvP, hst]); rfl)
  go_wp2_with fail
  go_ret
  exact ⟨rfl, hS2, (((PFrm.drew _ _ _).trans hF1).trans ((PFrm.drew _ _ _).trans hF2))⟩


/-- The two that only pass on. -/
theorem pass6 {w : World} {R : Ending → World → Prop} (h : Calls Tryz.prog 59 #[.pointer (some ⟨Bb, 514, none⟩), .bool false] w (fun e w' => e = .returned .nilIface ∧ R e w')) : Calls Tryz.prog 36 #[.pointer (some ⟨Bb, 514, none⟩)] w R := by
  go_enter Tryz.func36, Tryz.ntmps36
  go_wp2_with fail
  refine h.mono ?_
  rintro e w1 ⟨rfl, hr⟩
  go_wp2_with fail
  exact hr
theorem pass7 {w : World} {R : Ending → World → Prop} (h : Calls Tryz.prog 59 #[.pointer (some ⟨Bb, 514, none⟩), .bool true] w (fun e w' => e = .returned .nilIface ∧ R e w')) : Calls Tryz.prog 37 #[.pointer (some ⟨Bb, 514, none⟩)] w R := by
  go_enter Tryz.func37, Tryz.ntmps37
  go_wp2_with fail
  refine h.mono ?_
  rintro e w1 ⟨rfl, hr⟩
  go_wp2_with fail
  exact hr
end
end Go.Proofs.YtoanpkfekhkaoaaGreatDoor
