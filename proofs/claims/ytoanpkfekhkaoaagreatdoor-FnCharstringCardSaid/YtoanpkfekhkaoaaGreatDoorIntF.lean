/-
  The contracts of the remaining curve operators. Conditions: as in the text before it.
-/
import Derived.Test.YtoanpkfekhkaoaaGreatDoorIntE
namespace Go.Proofs.YtoanpkfekhkaoaaGreatDoor
open Go Go.RowKit
section
variable {Bb lo : Nat} {ins : Value} {s : PS} {w : World}
attribute [local go_sem ↓] Go.wp_at_zero Go.wp_at_succ
attribute [local go_sem] wrap0 wrap1 wrap2 wrap3 wrap4 wrap5 wrap6 wrap7
set_option maxRecDepth 100000 in
set_option maxHeartbeats 2000000 in
theorem c4_26 (hS : PSt Bb lo ins s w) (hx : -1000000 ≤ s.x ∧ s.x ≤ 1000000) (hy : -1000000 ≤ s.y ∧ s.y ≤ 1000000) (hn : s.segs.length ≤ 100000) (a b c d e : Int) (ha : -1000 ≤ a ∧ a ≤ 1000) (hb : -1000 ≤ b ∧ b ≤ 1000) (hc : -1000 ≤ c ∧ c ≤ 1000) (hd : -1000 ≤ d ∧ d ≤ 1000) (hst : s.stk = [e, a, b, c, d]) :
    Calls Tryz.prog 75 #[.pointer (some ⟨Bb, 514, none⟩), .bool false, .bool true, .int .i32 1] w (PTo Bb lo ins (cvP 0 a b c 0 d s) w (.int .i32 5)) := by
  have HM : Hid (Calls Tryz.prog 60 #[.pointer (some ⟨Bb, 659, none⟩), .int .i32 0, .int .i32 a, .int .i32 b, .int .i32 c, .int .i32 0, .int .i32 d] w (PTo Bb lo ins (cvP 0 a b c 0 d s) w (.tuple #[]))) := Lib.hid (cubeTo_st hS 0 a b c 0 d hx hy (by omega) ha hb hc (by omega) hd hn)
  have h566 : w.cell? ⟨Bb, 566, none⟩ = some (.int .i32 5) := by have := hS.cell.2.2.1; (try simp only [hst] at this); exact this
  have h518 : w.cell? ⟨Bb, 518, none⟩ = some (.int .i32 e) := hS.arg (i := 0) (by (try simp only [hst]); rfl)
  have h519 : w.cell? ⟨Bb, 519, none⟩ = some (.int .i32 a) := hS.arg (i := 1) (by (try simp only [hst]); rfl)
  have h520 : w.cell? ⟨Bb, 520, none⟩ = some (.int .i32 b) := hS.arg (i := 2) (by (try simp only [hst]); rfl)
  have h521 : w.cell? ⟨Bb, 521, none⟩ = some (.int .i32 c) := hS.arg (i := 3) (by (try simp only [hst]); rfl)
  have h522 : w.cell? ⟨Bb, 522, none⟩ = some (.int .i32 d) := hS.arg (i := 4) (by (try simp only [hst]); rfl)
  clear hx hy hn ha hb hc hd
  go_enter Tryz.func75, Tryz.ntmps75
  go_wp2_with fail
  refine HM.out.mono ?_
  rintro e' w1 ⟨rfl, hS1, hF1⟩
  go_wp2_with fail
  go_ret
  exact ⟨rfl, hS1, hF1⟩
set_option maxRecDepth 100000 in
set_option maxHeartbeats 2000000 in
theorem c4_27 (hS : PSt Bb lo ins s w) (hx : -1000000 ≤ s.x ∧ s.x ≤ 1000000) (hy : -1000000 ≤ s.y ∧ s.y ≤ 1000000) (hn : s.segs.length ≤ 100000) (a b c d e : Int) (ha : -1000 ≤ a ∧ a ≤ 1000) (hb : -1000 ≤ b ∧ b ≤ 1000) (hc : -1000 ≤ c ∧ c ≤ 1000) (hd : -1000 ≤ d ∧ d ≤ 1000) (hst : s.stk = [e, a, b, c, d]) :
    Calls Tryz.prog 75 #[.pointer (some ⟨Bb, 514, none⟩), .bool false, .bool false, .int .i32 1] w (PTo Bb lo ins (cvP a 0 b c d 0 s) w (.int .i32 5)) := by
  have HM : Hid (Calls Tryz.prog 60 #[.pointer (some ⟨Bb, 659, none⟩), .int .i32 a, .int .i32 0, .int .i32 b, .int .i32 c, .int .i32 d, .int .i32 0] w (PTo Bb lo ins (cvP a 0 b c d 0 s) w (.tuple #[]))) := Lib.hid (cubeTo_st hS a 0 b c d 0 hx hy ha (by omega) hb hc hd (by omega) hn)
  have h566 : w.cell? ⟨Bb, 566, none⟩ = some (.int .i32 5) := by have := hS.cell.2.2.1; (try simp only [hst] at this); exact this
  have h518 : w.cell? ⟨Bb, 518, none⟩ = some (.int .i32 e) := hS.arg (i := 0) (by (try simp only [hst]); rfl)
  have h519 : w.cell? ⟨Bb, 519, none⟩ = some (.int .i32 a) := hS.arg (i := 1) (by (try simp only [hst]); rfl)
  have h520 : w.cell? ⟨Bb, 520, none⟩ = some (.int .i32 b) := hS.arg (i := 2) (by (try simp only [hst]); rfl)
  have h521 : w.cell? ⟨Bb, 521, none⟩ = some (.int .i32 c) := hS.arg (i := 3) (by (try simp only [hst]); rfl)
  have h522 : w.cell? ⟨Bb, 522, none⟩ = some (.int .i32 d) := hS.arg (i := 4) (by (try simp only [hst]); rfl)
  clear hx hy hn ha hb hc hd
  go_enter Tryz.func75, Tryz.ntmps75
  go_wp2_with fail
  refine HM.out.mono ?_
  rintro e' w1 ⟨rfl, hS1, hF1⟩
  go_wp2_with fail
  go_ret
  exact ⟨rfl, hS1, hF1⟩
set_option maxRecDepth 100000 in
set_option maxHeartbeats 2000000 in
theorem c4_30 (hS : PSt Bb lo ins s w) (hx : -1000000 ≤ s.x ∧ s.x ≤ 1000000) (hy : -1000000 ≤ s.y ∧ s.y ≤ 1000000) (hn : s.segs.length ≤ 100000) (a b c d e : Int) (ha : -1000 ≤ a ∧ a ≤ 1000) (hb : -1000 ≤ b ∧ b ≤ 1000) (hc : -1000 ≤ c ∧ c ≤ 1000) (hd : -1000 ≤ d ∧ d ≤ 1000) (he : -1000 ≤ e ∧ e ≤ 1000) (hst : s.stk = [a, b, c, d, e]) :
    Calls Tryz.prog 75 #[.pointer (some ⟨Bb, 514, none⟩), .bool true, .bool true, .int .i32 0] w (PTo Bb lo ins (cvP 0 a b c d e s) w (.int .i32 5)) := by
  have HM : Hid (Calls Tryz.prog 60 #[.pointer (some ⟨Bb, 659, none⟩), .int .i32 0, .int .i32 a, .int .i32 b, .int .i32 c, .int .i32 d, .int .i32 e] w (PTo Bb lo ins (cvP 0 a b c d e s) w (.tuple #[]))) := Lib.hid (cubeTo_st hS 0 a b c d e hx hy (by omega) ha hb hc hd he hn)
  have h566 : w.cell? ⟨Bb, 566, none⟩ = some (.int .i32 5) := by have := hS.cell.2.2.1; (try simp only [hst] at this); exact this
  have h518 : w.cell? ⟨Bb, 518, none⟩ = some (.int .i32 a) := hS.arg (i := 0) (by (try simp only [hst]); rfl)
  have h519 : w.cell? ⟨Bb, 519, none⟩ = some (.int .i32 b) := hS.arg (i := 1) (by (try simp only [hst]); rfl)
  have h520 : w.cell? ⟨Bb, 520, none⟩ = some (.int .i32 c) := hS.arg (i := 2) (by (try simp only [hst]); rfl)
  have h521 : w.cell? ⟨Bb, 521, none⟩ = some (.int .i32 d) := hS.arg (i := 3) (by (try simp only [hst]); rfl)
  have h522 : w.cell? ⟨Bb, 522, none⟩ = some (.int .i32 e) := hS.arg (i := 4) (by (try simp only [hst]); rfl)
  clear hx hy hn ha hb hc hd he
  go_enter Tryz.func75, Tryz.ntmps75
  go_wp2_with fail
  refine HM.out.mono ?_
  rintro e' w1 ⟨rfl, hS1, hF1⟩
  go_wp2_with fail
  go_ret
  exact ⟨rfl, hS1, hF1⟩
set_option maxRecDepth 100000 in
set_option maxHeartbeats 2000000 in
theorem c4_31 (hS : PSt Bb lo ins s w) (hx : -1000000 ≤ s.x ∧ s.x ≤ 1000000) (hy : -1000000 ≤ s.y ∧ s.y ≤ 1000000) (hn : s.segs.length ≤ 100000) (a b c d e : Int) (ha : -1000 ≤ a ∧ a ≤ 1000) (hb : -1000 ≤ b ∧ b ≤ 1000) (hc : -1000 ≤ c ∧ c ≤ 1000) (hd : -1000 ≤ d ∧ d ≤ 1000) (he : -1000 ≤ e ∧ e ≤ 1000) (hst : s.stk = [a, b, c, d, e]) :
    Calls Tryz.prog 75 #[.pointer (some ⟨Bb, 514, none⟩), .bool true, .bool false, .int .i32 0] w (PTo Bb lo ins (cvP a 0 b c e d s) w (.int .i32 5)) := by
  have HM : Hid (Calls Tryz.prog 60 #[.pointer (some ⟨Bb, 659, none⟩), .int .i32 a, .int .i32 0, .int .i32 b, .int .i32 c, .int .i32 e, .int .i32 d] w (PTo Bb lo ins (cvP a 0 b c e d s) w (.tuple #[]))) := Lib.hid (cubeTo_st hS a 0 b c e d hx hy ha (by omega) hb hc he hd hn)
  have h566 : w.cell? ⟨Bb, 566, none⟩ = some (.int .i32 5) := by have := hS.cell.2.2.1; (try simp only [hst] at this); exact this
  have h518 : w.cell? ⟨Bb, 518, none⟩ = some (.int .i32 a) := hS.arg (i := 0) (by (try simp only [hst]); rfl)
  have h519 : w.cell? ⟨Bb, 519, none⟩ = some (.int .i32 b) := hS.arg (i := 1) (by (try simp only [hst]); rfl)
  have h520 : w.cell? ⟨Bb, 520, none⟩ = some (.int .i32 c) := hS.arg (i := 2) (by (try simp only [hst]); rfl)
  have h521 : w.cell? ⟨Bb, 521, none⟩ = some (.int .i32 d) := hS.arg (i := 3) (by (try simp only [hst]); rfl)
  have h522 : w.cell? ⟨Bb, 522, none⟩ = some (.int .i32 e) := hS.arg (i := 4) (by (try simp only [hst]); rfl)
  clear hx hy hn ha hb hc hd he
  go_enter Tryz.func75, Tryz.ntmps75
  go_wp2_with fail
  refine HM.out.mono ?_
  rintro e' w1 ⟨rfl, hS1, hF1⟩
  go_wp2_with fail
  go_ret
  exact ⟨rfl, hS1, hF1⟩
set_option maxRecDepth 100000 in
set_option maxHeartbeats 2000000 in
theorem op26_st0 (hS : PSt Bb lo ins s w) (hB : PB s) (hsn : s.seen = true) (a b c d e : Int) (ha : -1000 ≤ a ∧ a ≤ 1000) (hb : -1000 ≤ b ∧ b ≤ 1000) (hc : -1000 ≤ c ∧ c ≤ 1000) (hd : -1000 ≤ d ∧ d ≤ 1000) (he : -1000 ≤ e ∧ e ≤ 1000) (hst : s.stk = [e, a, b, c, d]) :
    Calls Tryz.prog 66 #[.pointer (some ⟨Bb, 514, none⟩), .bool false, .bool true] w (PTo Bb lo ins (cvP 0 a b c 0 d { s with x := s.x + e }) w .nilIface) := by
  obtain ⟨⟨bx1, bx2⟩, ⟨by1, by2⟩, bn⟩ := hB
  have HM : Hid (∀ W, PSt Bb lo ins { s with x := s.x + e } W → Calls Tryz.prog 75 #[.pointer (some ⟨Bb, 514, none⟩), .bool false, .bool true, .int .i32 1] W (PTo Bb lo ins (cvP 0 a b c 0 d { s with x := s.x + e }) W (.int .i32 5))) :=
    Lib.hid fun W h => c4_26 h ⟨by (try simp only); omega, by (try simp only); omega⟩ ⟨by (try simp only); omega, by (try simp only); omega⟩ (by (try simp only); omega) a b c d e ha hb hc hd hst
  have HT : Hid (∀ W, PSt Bb lo ins (cvP 0 a b c 0 d { s with x := s.x + e }) W → W.cell? ⟨Bb, 566, none⟩ = some (.int .i32 5)) := Lib.hid fun W h => by have := h.cell.2.2.1; simp only [cvP, hst] at this; exact this
  have h666 := hS.cell.2.2.2.2.2.2.2.2.2.1
  rw [hsn] at h666
  have h661 : w.cell? ⟨Bb, 661, none⟩ = some (.int .i32 s.x) := hS.cell.2.2.2.2.2.1
  have f661 := hS.free 661
  have hS1 := (hS.setX (s.x + e)).drew
  have hF1 := (PFrm.set Bb lo w 661 (.int .i32 (s.x + e))).trans (PFrm.drew Bb lo _)
  have h566 : w.cell? ⟨Bb, 566, none⟩ = some (.int .i32 5) := by have := hS.cell.2.2.1; (try simp only [hst] at this); exact this
  have h518 : w.cell? ⟨Bb, 518, none⟩ = some (.int .i32 e) := hS.arg (i := 0) (by (try simp only [hst]); rfl)
  have be1 := he.1
  have be2 := he.2
  clear bn hsn
  go_enter Tryz.func66, Tryz.ntmps66
  go_upto_region 11 with (fail)
  refine wp_region_still_tail 15 (by kernel_rfl) (by kernel_rfl) ?_
  change wpStill _ _ (World.drew w) (fun a' => wpList _ _ _ _ a' (World.drew w)) _ _
  simp only [List.take_succ_cons, List.take_zero, List.drop_succ_cons, List.drop_zero]
  iterate 15 (refine' wpS_one (by rfl) ?_ ?_; rotate_left; (focus (go_simp; with_reducible rfl)); simp only [Act.put, List.setIfInBounds_toArray, List.set_cons_zero, List.set_cons_succ])
  refine wpStill_nil ?_
  go_wp2_with fail
  generalize (w.setCell ⟨Bb, 661, none⟩ (.int .i32 (s.x + e))).drew = W at hS1 hF1 ⊢
  clear h666 h566 h518 h661 f661
  have h566 : W.cell? ⟨Bb, 566, none⟩ = some (.int .i32 5) := by have := hS1.cell.2.2.1; simp only [hst] at this; exact this
  refine wp_loop_rounds 2 ?_
  rw [rounds_succ]
  go_wp2_with fail
  refine (HM.out _ hS1).mono ?_
  clear h566
  rintro e' w1 ⟨rfl, hS2, hF2⟩
  have h566 := HT.out _ hS2
  go_wp2_with fail
  rw [rounds_succ]
  go_wp2_with fail
  go_ret
  exact ⟨rfl, hS2, hF1.trans hF2⟩
set_option maxRecDepth 100000 in
set_option maxHeartbeats 2000000 in
theorem op27_st0 (hS : PSt Bb lo ins s w) (hB : PB s) (hsn : s.seen = true) (a b c d e : Int) (ha : -1000 ≤ a ∧ a ≤ 1000) (hb : -1000 ≤ b ∧ b ≤ 1000) (hc : -1000 ≤ c ∧ c ≤ 1000) (hd : -1000 ≤ d ∧ d ≤ 1000) (he : -1000 ≤ e ∧ e ≤ 1000) (hst : s.stk = [e, a, b, c, d]) :
    Calls Tryz.prog 66 #[.pointer (some ⟨Bb, 514, none⟩), .bool false, .bool false] w (PTo Bb lo ins (cvP a 0 b c d 0 { s with y := s.y + e }) w .nilIface) := by
  obtain ⟨⟨bx1, bx2⟩, ⟨by1, by2⟩, bn⟩ := hB
  have HM : Hid (∀ W, PSt Bb lo ins { s with y := s.y + e } W → Calls Tryz.prog 75 #[.pointer (some ⟨Bb, 514, none⟩), .bool false, .bool false, .int .i32 1] W (PTo Bb lo ins (cvP a 0 b c d 0 { s with y := s.y + e }) W (.int .i32 5))) :=
    Lib.hid fun W h => c4_27 h ⟨by (try simp only); omega, by (try simp only); omega⟩ ⟨by (try simp only); omega, by (try simp only); omega⟩ (by (try simp only); omega) a b c d e ha hb hc hd hst
  have HT : Hid (∀ W, PSt Bb lo ins (cvP a 0 b c d 0 { s with y := s.y + e }) W → W.cell? ⟨Bb, 566, none⟩ = some (.int .i32 5)) := Lib.hid fun W h => by have := h.cell.2.2.1; simp only [cvP, hst] at this; exact this
  have h666 := hS.cell.2.2.2.2.2.2.2.2.2.1
  rw [hsn] at h666
  have h662 : w.cell? ⟨Bb, 662, none⟩ = some (.int .i32 s.y) := hS.cell.2.2.2.2.2.2.1
  have f662 := hS.free 662
  have hS1 := (hS.setY (s.y + e)).drew
  have hF1 := (PFrm.set Bb lo w 662 (.int .i32 (s.y + e))).trans (PFrm.drew Bb lo _)
  have h566 : w.cell? ⟨Bb, 566, none⟩ = some (.int .i32 5) := by have := hS.cell.2.2.1; (try simp only [hst] at this); exact this
  have h518 : w.cell? ⟨Bb, 518, none⟩ = some (.int .i32 e) := hS.arg (i := 0) (by (try simp only [hst]); rfl)
  have be1 := he.1
  have be2 := he.2
  clear bn hsn
  go_enter Tryz.func66, Tryz.ntmps66
  go_upto_region 12 with (fail)
  refine wp_region_still_tail 15 (by kernel_rfl) (by kernel_rfl) ?_
  change wpStill _ _ (World.drew w) (fun a' => wpList _ _ _ _ a' (World.drew w)) _ _
  simp only [List.take_succ_cons, List.take_zero, List.drop_succ_cons, List.drop_zero]
  iterate 15 (refine' wpS_one (by rfl) ?_ ?_; rotate_left; (focus (go_simp; with_reducible rfl)); simp only [Act.put, List.setIfInBounds_toArray, List.set_cons_zero, List.set_cons_succ])
  refine wpStill_nil ?_
  go_wp2_with fail
  generalize (w.setCell ⟨Bb, 662, none⟩ (.int .i32 (s.y + e))).drew = W at hS1 hF1 ⊢
  clear h666 h566 h518 h662 f662
  have h566 : W.cell? ⟨Bb, 566, none⟩ = some (.int .i32 5) := by have := hS1.cell.2.2.1; simp only [hst] at this; exact this
  refine wp_loop_rounds 2 ?_
  rw [rounds_succ]
  go_wp2_with fail
  refine (HM.out _ hS1).mono ?_
  clear h566
  rintro e' w1 ⟨rfl, hS2, hF2⟩
  have h566 := HT.out _ hS2
  go_wp2_with fail
  rw [rounds_succ]
  go_wp2_with fail
  go_ret
  exact ⟨rfl, hS2, hF1.trans hF2⟩
set_option maxRecDepth 100000 in
set_option maxHeartbeats 2000000 in
theorem op30_st0 (hS : PSt Bb lo ins s w) (hB : PB s) (hsn : s.seen = true) (a b c d e : Int) (ha : -1000 ≤ a ∧ a ≤ 1000) (hb : -1000 ≤ b ∧ b ≤ 1000) (hc : -1000 ≤ c ∧ c ≤ 1000) (hd : -1000 ≤ d ∧ d ≤ 1000) (he : -1000 ≤ e ∧ e ≤ 1000) (hst : s.stk = [a, b, c, d, e]) :
    Calls Tryz.prog 66 #[.pointer (some ⟨Bb, 514, none⟩), .bool true, .bool true] w (PTo Bb lo ins (cvP 0 a b c d e s) w .nilIface) := by
  obtain ⟨⟨bx1, bx2⟩, ⟨by1, by2⟩, bn⟩ := hB
  have HM : Hid (∀ W, PSt Bb lo ins s W → Calls Tryz.prog 75 #[.pointer (some ⟨Bb, 514, none⟩), .bool true, .bool true, .int .i32 0] W (PTo Bb lo ins (cvP 0 a b c d e s) W (.int .i32 5))) :=
    Lib.hid fun W h => c4_30 h ⟨by (try simp only); omega, by (try simp only); omega⟩ ⟨by (try simp only); omega, by (try simp only); omega⟩ (by (try simp only); omega) a b c d e ha hb hc hd he hst
  have HT : Hid (∀ W, PSt Bb lo ins (cvP 0 a b c d e s) W → W.cell? ⟨Bb, 566, none⟩ = some (.int .i32 5)) := Lib.hid fun W h => by have := h.cell.2.2.1; simp only [cvP, hst] at this; exact this
  have h666 := hS.cell.2.2.2.2.2.2.2.2.2.1
  rw [hsn] at h666
  have h566 : w.cell? ⟨Bb, 566, none⟩ = some (.int .i32 5) := by have := hS.cell.2.2.1; (try simp only [hst] at this); exact this
  have h518 : w.cell? ⟨Bb, 518, none⟩ = some (.int .i32 a) := hS.arg (i := 0) (by (try simp only [hst]); rfl)
  have h519 : w.cell? ⟨Bb, 519, none⟩ = some (.int .i32 b) := hS.arg (i := 1) (by (try simp only [hst]); rfl)
  have h520 : w.cell? ⟨Bb, 520, none⟩ = some (.int .i32 c) := hS.arg (i := 2) (by (try simp only [hst]); rfl)
  have h521 : w.cell? ⟨Bb, 521, none⟩ = some (.int .i32 d) := hS.arg (i := 3) (by (try simp only [hst]); rfl)
  have h522 : w.cell? ⟨Bb, 522, none⟩ = some (.int .i32 e) := hS.arg (i := 4) (by (try simp only [hst]); rfl)
  clear bx1 bx2 by1 by2 bn ha hb hc hd he
  go_enter Tryz.func66, Tryz.ntmps66
  go_wp2_with fail
  refine wp_loop_rounds 2 ?_
  rw [rounds_succ]
  go_wp2_with fail
  refine (HM.out _ hS).mono ?_
  clear h666 h566 h518 h519 h520 h521 h522
  rintro e' w1 ⟨rfl, hS1, hF1⟩
  have h566 := HT.out _ hS1
  go_wp2_with fail
  rw [rounds_succ]
  go_wp2_with fail
  go_ret
  exact ⟨rfl, hS1, hF1⟩
set_option maxRecDepth 100000 in
set_option maxHeartbeats 2000000 in
theorem op31_st0 (hS : PSt Bb lo ins s w) (hB : PB s) (hsn : s.seen = true) (a b c d e : Int) (ha : -1000 ≤ a ∧ a ≤ 1000) (hb : -1000 ≤ b ∧ b ≤ 1000) (hc : -1000 ≤ c ∧ c ≤ 1000) (hd : -1000 ≤ d ∧ d ≤ 1000) (he : -1000 ≤ e ∧ e ≤ 1000) (hst : s.stk = [a, b, c, d, e]) :
    Calls Tryz.prog 66 #[.pointer (some ⟨Bb, 514, none⟩), .bool true, .bool false] w (PTo Bb lo ins (cvP a 0 b c e d s) w .nilIface) := by
  obtain ⟨⟨bx1, bx2⟩, ⟨by1, by2⟩, bn⟩ := hB
  have HM : Hid (∀ W, PSt Bb lo ins s W → Calls Tryz.prog 75 #[.pointer (some ⟨Bb, 514, none⟩), .bool true, .bool false, .int .i32 0] W (PTo Bb lo ins (cvP a 0 b c e d s) W (.int .i32 5))) :=
    Lib.hid fun W h => c4_31 h ⟨by (try simp only); omega, by (try simp only); omega⟩ ⟨by (try simp only); omega, by (try simp only); omega⟩ (by (try simp only); omega) a b c d e ha hb hc hd he hst
  have HT : Hid (∀ W, PSt Bb lo ins (cvP a 0 b c e d s) W → W.cell? ⟨Bb, 566, none⟩ = some (.int .i32 5)) := Lib.hid fun W h => by have := h.cell.2.2.1; simp only [cvP, hst] at this; exact this
  have h666 := hS.cell.2.2.2.2.2.2.2.2.2.1
  rw [hsn] at h666
  have h566 : w.cell? ⟨Bb, 566, none⟩ = some (.int .i32 5) := by have := hS.cell.2.2.1; (try simp only [hst] at this); exact this
  have h518 : w.cell? ⟨Bb, 518, none⟩ = some (.int .i32 a) := hS.arg (i := 0) (by (try simp only [hst]); rfl)
  have h519 : w.cell? ⟨Bb, 519, none⟩ = some (.int .i32 b) := hS.arg (i := 1) (by (try simp only [hst]); rfl)
  have h520 : w.cell? ⟨Bb, 520, none⟩ = some (.int .i32 c) := hS.arg (i := 2) (by (try simp only [hst]); rfl)
  have h521 : w.cell? ⟨Bb, 521, none⟩ = some (.int .i32 d) := hS.arg (i := 3) (by (try simp only [hst]); rfl)
  have h522 : w.cell? ⟨Bb, 522, none⟩ = some (.int .i32 e) := hS.arg (i := 4) (by (try simp only [hst]); rfl)
  clear bx1 bx2 by1 by2 bn ha hb hc hd he
  go_enter Tryz.func66, Tryz.ntmps66
  go_wp2_with fail
  refine wp_loop_rounds 2 ?_
  rw [rounds_succ]
  go_wp2_with fail
  refine (HM.out _ hS).mono ?_
  clear h666 h566 h518 h519 h520 h521 h522
  rintro e' w1 ⟨rfl, hS1, hF1⟩
  have h566 := HT.out _ hS1
  go_wp2_with fail
  rw [rounds_succ]
  go_wp2_with fail
  go_ret
  exact ⟨rfl, hS1, hF1⟩
theorem pass47 {w : World} {R : Ending → World → Prop} (h : Calls Tryz.prog 66 #[.pointer (some ⟨Bb, 514, none⟩), .bool false, .bool true] w (fun e w' => e = .returned .nilIface ∧ R e w')) : Calls Tryz.prog 47 #[.pointer (some ⟨Bb, 514, none⟩)] w R := by
  go_enter Tryz.func47, Tryz.ntmps47
  go_wp2_with fail
  refine h.mono ?_
  rintro e w1 ⟨rfl, hr⟩
  go_wp2_with fail
  exact hr
theorem pass48 {w : World} {R : Ending → World → Prop} (h : Calls Tryz.prog 66 #[.pointer (some ⟨Bb, 514, none⟩), .bool false, .bool false] w (fun e w' => e = .returned .nilIface ∧ R e w')) : Calls Tryz.prog 48 #[.pointer (some ⟨Bb, 514, none⟩)] w R := by
  go_enter Tryz.func48, Tryz.ntmps48
  go_wp2_with fail
  refine h.mono ?_
  rintro e w1 ⟨rfl, hr⟩
  go_wp2_with fail
  exact hr
theorem pass50 {w : World} {R : Ending → World → Prop} (h : Calls Tryz.prog 66 #[.pointer (some ⟨Bb, 514, none⟩), .bool true, .bool true] w (fun e w' => e = .returned .nilIface ∧ R e w')) : Calls Tryz.prog 50 #[.pointer (some ⟨Bb, 514, none⟩)] w R := by
  go_enter Tryz.func50, Tryz.ntmps50
  go_wp2_with fail
  refine h.mono ?_
  rintro e w1 ⟨rfl, hr⟩
  go_wp2_with fail
  exact hr
theorem pass51 {w : World} {R : Ending → World → Prop} (h : Calls Tryz.prog 66 #[.pointer (some ⟨Bb, 514, none⟩), .bool true, .bool false] w (fun e w' => e = .returned .nilIface ∧ R e w')) : Calls Tryz.prog 51 #[.pointer (some ⟨Bb, 514, none⟩)] w R := by
  go_enter Tryz.func51, Tryz.ntmps51
  go_wp2_with fail
  refine h.mono ?_
  rintro e w1 ⟨rfl, hr⟩
  go_wp2_with fail
  exact hr
end
end Go.Proofs.YtoanpkfekhkaoaaGreatDoor
