/-
  Rounds of the reference's loop, cases 0, 1, 2, where a contour is open. Conditions: the loop's frame.
-/
import Derived.Test.YtoanpkfekhkaoaaGreatDoorSpecE
import Derived.Deep.Cut
namespace Go.Proofs.YtoanpkfekhkaoaaGreatDoor
open Go Go.RowKit


set_option maxRecDepth 100000 in
set_option maxHeartbeats 8000000 in
theorem case_t0 {B ob oo ol oc k nb no nl nc : Nat} {ways o : Int} {zs : List Int} {s : SS} {w0 wr : World} {u : Nat → Value} {Q : Exit → Act → World → Prop}
    (hS : SpecSt B (.slice (some ⟨nb, no, none⟩) nl nc) ways w0 s wr) (hk : k < ol) (hol : ol ≤ 40) (hc : wr.cell? ⟨ob, oo + k, none⟩ = some (.int .u8 o)) (ho : 0 ≤ o ∧ o ≤ 255)
    (hl : zs.length = nl) (h1 : 1 ≤ nl) (h2 : nl ≤ 1000)
    (hcn : ∀ i, i < nl → w0.cell? ⟨nb, no + i, none⟩ = some (.int .i16 (zs.getD i 0))) (hwf : ∀ i, -32768 ≤ zs.getD i 0 ∧ zs.getD i 0 ≤ 32767) (hnb : nb < B) (hat : s.at_ ≤ 1000)
    (hx : -900000 ≤ s.here.1 ∧ s.here.1 ≤ 900000) (hy : -900000 ≤ s.here.2 ∧ s.here.2 ≤ 900000) (hlp : s.path.length ≤ 50000) (hlt : (encs (wideOf ways) s.toks).length ≤ 50000)
    (hopn : s.opn = true) (hm : o % 12 = 0)
    (hQ : ∀ t w', Fr4 B ob oo ol oc (k + 1) t → SpecSt B (.slice (some ⟨nb, no, none⟩) nl nc) ways w0 (stepM zs (twoOf ways) 0 s) w' → SFrm B wr w' → Q .normal ⟨t, []⟩ w') :
    Code.wp Tryz.prog body4 Q ⟨fr4 B ob oo ol oc k u, []⟩ wr := by
  have hop : wr.cell? ⟨B + 9, 0, none⟩ = some (.bool true) := by rw [blk_cell hS.copn, hopn]; rfl
  have HN := Lib.hid hcn
  have HW := Lib.hid hwf
  have HL := Lib.hid hl
  have HLP := Lib.hid hlp
  have HLT := Lib.hid hlt
  have HQ := Lib.hid hQ
  obtain ⟨hx1, hx2⟩ := hx
  obtain ⟨hy1, hy2⟩ := hy
  clear hcn hwf hl hopn hlp hlt hQ
  conv => arg 2; whnf
  unfold fr4
  go_wp2_with fail
  refine (next_st hS HL.out h1 h2 HN.out HW.out hnb (by (try dsimp only); omega)).mono ?_
  rintro e1 w1 ⟨rfl, hS1, hF1⟩
  go_wp2_with fail
  refine (next_st hS1 HL.out h1 h2 HN.out HW.out hnb (by (try dsimp only); omega)).mono ?_
  rintro e2 w2 ⟨rfl, hS2, hF2⟩
  go_wp2_with fail
  refine (next_st hS2 HL.out h1 h2 HN.out HW.out hnb (by (try dsimp only); omega)).mono ?_
  rintro e3 w3 ⟨rfl, hS3, hF3⟩
  go_wp2_with fail
  refine (next_st hS3 HL.out h1 h2 HN.out HW.out hnb (by (try dsimp only); omega)).mono ?_
  rintro e4 w4 ⟨rfl, hS4, hF4⟩
  go_wp2_with fail
  refine (next_st hS4 HL.out h1 h2 HN.out HW.out hnb (by (try dsimp only); omega)).mono ?_
  rintro e5 w5 ⟨rfl, hS5, hF5⟩
  go_wp2_with fail
  refine (next_st hS5 HL.out h1 h2 HN.out HW.out hnb (by (try dsimp only); omega)).mono ?_
  rintro e6 w6 ⟨rfl, hS6, hF6⟩
  have hh1 : w6.cell? ⟨B + 7, 0, none⟩ = some (.int .i64 s.here.1) := by rw [blk_cell hS6.chere]; rfl
  have hh2 : w6.cell? ⟨B + 7, 1, none⟩ = some (.int .i64 s.here.2) := by rw [blk_cell hS6.chere]; rfl
  go_wp2_with fail
  generalize ga : nx zs (s.at_ + 1) = a
  have ba : -499 ≤ a ∧ a ≤ 499 := by rw [← ga]; exact nx_bd _ _
  obtain ⟨ba1, ba2⟩ := ba
  have Ga := Lib.hid ga
  clear ga
  generalize gb : nx zs (s.at_ + 1 + 1) = b
  have bb : -499 ≤ b ∧ b ≤ 499 := by rw [← gb]; exact nx_bd _ _
  obtain ⟨bb1, bb2⟩ := bb
  have Gb := Lib.hid gb
  clear gb
  generalize gc : nx zs (s.at_ + 1 + 1 + 1) = c
  have bc : -499 ≤ c ∧ c ≤ 499 := by rw [← gc]; exact nx_bd _ _
  obtain ⟨bc1, bc2⟩ := bc
  have Gc := Lib.hid gc
  clear gc
  generalize gd : nx zs (s.at_ + 1 + 1 + 1 + 1) = d
  have bd : -499 ≤ d ∧ d ≤ 499 := by rw [← gd]; exact nx_bd _ _
  obtain ⟨bd1, bd2⟩ := bd
  have Gd := Lib.hid gd
  clear gd
  generalize ge : nx zs (s.at_ + 1 + 1 + 1 + 1 + 1) = e
  have be : -499 ≤ e ∧ e ≤ 499 := by rw [← ge]; exact nx_bd _ _
  obtain ⟨be1, be2⟩ := be
  have Ge := Lib.hid ge
  clear ge
  generalize gf : nx zs (s.at_ + 1 + 1 + 1 + 1 + 1 + 1) = f
  have bf : -499 ≤ f ∧ f ≤ 499 := by rw [← gf]; exact nx_bd _ _
  obtain ⟨bf1, bf2⟩ := bf
  have Gf := Lib.hid gf
  clear gf
  generalize hex : s.here.1 = x at hx1 hx2 hh1 ⊢
  generalize hey : s.here.2 = y at hy1 hy2 hh2 ⊢
  have HEX := Lib.hid hex
  have HEY := Lib.hid hey
  clear hex hey
  refine (closed_st (hS6.alloc _) (by have := HLP.out; (try dsimp only); omega)).mono ?_
  rintro e7 w7 ⟨rfl, hS7, hF7⟩
  have hbig6 := hS6.big
  have hwas : w7.heap[w6.heap.size]? = some (.cells #[.int .i64 x, .int .i64 y] 35 (0, 0)) := by
    rw [hF7.blk _ (by simp) (by omega) (isTy.ne (blk_at _ _ rfl) (by decide)) (isTy.ne (blk_at _ _ rfl) (by decide))]; exact blk_at _ _ rfl
  have q1 : w7.cell? ⟨w6.heap.size, 0, none⟩ = some (.int .i64 x) := by rw [blk_cell hwas]; rfl
  have q2 : w7.cell? ⟨w6.heap.size, 1, none⟩ = some (.int .i64 y) := by rw [blk_cell hwas]; rfl
  obtain ⟨p, hp⟩ : ∃ p, p = (closeS { s with at_ := s.at_ + 1 + 1 + 1 + 1 + 1 + 1 }).here := ⟨_, rfl⟩
  have q3 : w7.cell? ⟨B + 7, 0, none⟩ = some (.int .i64 p.1) := by rw [blk_cell hS7.chere, hp]; rfl
  have q4 : w7.cell? ⟨B + 7, 1, none⟩ = some (.int .i64 p.2) := by rw [blk_cell hS7.chere, hp]; rfl
  have q5 : w7.frozen? ⟨B + 7, 0, none⟩ = false := blk_free hS7.chere 0
  have q6 : w7.frozen? ⟨B + 7, 1, none⟩ = false := blk_free hS7.chere 1
  have hS8 := hS7.setHere x y
  have hs6 : w6.heap.size ≠ B + 7 := by omega
  have hT8 : (encs (wideOf ways) ({ closeS { s with at_ := s.at_ + 1 + 1 + 1 + 1 + 1 + 1 } with here := (x, y) } : SS).toks).length ≤ 50000 := by simp only [closeS_toks]; exact HLT.out
  have hP8 : ({ closeS { s with at_ := s.at_ + 1 + 1 + 1 + 1 + 1 + 1 } with here := (x, y) } : SS).path.length ≤ 50001 := by have := HLP.out; have h' := closeS_path { s with at_ := s.at_ + 1 + 1 + 1 + 1 + 1 + 1 }; dsimp only at h' ⊢; omega
  have HT8 := Lib.hid hT8
  have HP8 := Lib.hid hP8
  clear hT8 hP8 hp
  go_wp2_with fail
  refine (put_st (vs := [a, b]) (hS8.alloc _) (fun i hi => ?_) rfl (by simp) (blk_at _ _ (by simp)) (by have := hS8.big; (try simp only [World.size_setCell] at this ⊢); omega) (Nat.le_trans (HT8.out) (by simp))).mono ?_
  · match i, hi with
    | 0, _ => exact ⟨by simp only [List.getD_cons_zero]; omega, by simp only [List.getD_cons_zero]; omega⟩
    | 1, _ => exact ⟨by simp only [List.getD_cons_zero, List.getD_cons_succ]; omega, by simp only [List.getD_cons_zero, List.getD_cons_succ]; omega⟩
  rintro e9 w9 ⟨rfl, hS9, hF9⟩
  obtain ⟨vo9, hvo9⟩ := hS9.outCell
  go_upto_region 41 with (at_builtin; refine wp_app_out (b := 21) (vo := vo9) (hS9.alloc _) (by rw [cell_past (by have := hS9.big; omega)]; exact hvo9) (Nat.le_trans (tl_put [a, b] (HT8.out)) (by simp)) (blk_at _ _ rfl) rfl _ _ rfl rfl rfl ?_; intro g10 n10 c10 w10 hS10 hF10 hc10 hf10)
  have r1 : (w10.setCell ⟨B + 3, 0, none⟩ (.slice (some ⟨g10, 0, none⟩) n10 c10)).cell? ⟨B + 7, 0, none⟩ = some (.int .i64 x) := (by rw [blk_cell hS10.chere]; rfl)
  have r2 : (w10.setCell ⟨B + 3, 0, none⟩ (.slice (some ⟨g10, 0, none⟩) n10 c10)).cell? ⟨B + 7, 1, none⟩ = some (.int .i64 y) := (by rw [blk_cell hS10.chere]; rfl)
  have r3 : (w10.setCell ⟨B + 3, 0, none⟩ (.slice (some ⟨g10, 0, none⟩) n10 c10)).cell? ⟨B + 8, 0, none⟩ = some (.int .i64 (closeS { s with at_ := s.at_ + 1 + 1 + 1 + 1 + 1 + 1 }).beg.1) := (by rw [blk_cell hS10.cbeg]; rfl)
  have r4 : (w10.setCell ⟨B + 3, 0, none⟩ (.slice (some ⟨g10, 0, none⟩) n10 c10)).cell? ⟨B + 8, 1, none⟩ = some (.int .i64 (closeS { s with at_ := s.at_ + 1 + 1 + 1 + 1 + 1 + 1 }).beg.2) := (by rw [blk_cell hS10.cbeg]; rfl)
  have r5 : (w10.setCell ⟨B + 3, 0, none⟩ (.slice (some ⟨g10, 0, none⟩) n10 c10)).cell? ⟨B + 9, 0, none⟩ = some (.bool (closeS { s with at_ := s.at_ + 1 + 1 + 1 + 1 + 1 + 1 }).opn) := (by rw [blk_cell hS10.copn]; rfl)
  have z1 : (w10.setCell ⟨B + 3, 0, none⟩ (.slice (some ⟨g10, 0, none⟩) n10 c10)).frozen? ⟨B + 7, 0, none⟩ = false := blk_free hS10.chere 0
  have z2 : (w10.setCell ⟨B + 3, 0, none⟩ (.slice (some ⟨g10, 0, none⟩) n10 c10)).frozen? ⟨B + 7, 1, none⟩ = false := blk_free hS10.chere 1
  have z3 : (w10.setCell ⟨B + 3, 0, none⟩ (.slice (some ⟨g10, 0, none⟩) n10 c10)).frozen? ⟨B + 8, 0, none⟩ = false := blk_free hS10.cbeg 0
  have z4 : (w10.setCell ⟨B + 3, 0, none⟩ (.slice (some ⟨g10, 0, none⟩) n10 c10)).frozen? ⟨B + 8, 1, none⟩ = false := blk_free hS10.cbeg 1
  have z5 : (w10.setCell ⟨B + 3, 0, none⟩ (.slice (some ⟨g10, 0, none⟩) n10 c10)).frozen? ⟨B + 9, 0, none⟩ = false := blk_free hS10.copn 0
  obtain ⟨vp, r6⟩ := hS10.pathCell
  have hbg := hS10.big
  have y5 : B + 5 < (w10.setCell ⟨B + 3, 0, none⟩ (.slice (some ⟨g10, 0, none⟩) n10 c10)).heap.size := (by omega)
  have y7 : B + 7 < (w10.setCell ⟨B + 3, 0, none⟩ (.slice (some ⟨g10, 0, none⟩) n10 c10)).heap.size := (by omega)
  generalize hW : (w10.setCell ⟨B + 3, 0, none⟩ (.slice (some ⟨g10, 0, none⟩) n10 c10)) = W at *
  clear hW
  go_wp2_with (at_builtin; refine wp_app_path (sg := ⟨0, [((x + a), (y + b))]⟩) (g := W.heap.size) (a := W.heap.size + 1) (n := 1) (vp := vp) (by exact ((((hS10.setHere (x + a) (y + b)).setBeg (x + a) (y + b)).setOpn true).alloc _).alloc _) (by (repeat first | rw [cell_past (by (try simp only [World.size_alloc, World.size_setCell]); omega)] | rw [cell_set_ne (by omega)]); exact r6) (by have := HP8.out; (try dsimp only at this ⊢); omega) (by omega) (by rw [blk_alloc _ (by simp)]; exact blk_at _ _ (by simp)) rfl (blk_at _ _ (by simp)) rfl _ _ rfl rfl rfl ?_; intro g11 n11 c11 w11 hS11 hF11 hc11 hf11)
  refine HQ.out _ _ ⟨rfl, rfl, rfl, rfl, rfl, rfl, rfl, rfl, rfl, rfl, rfl, rfl, rfl, rfl, rfl⟩ ?_ ?_
  · obtain rfl := Ga.out; obtain rfl := Gb.out; obtain rfl := Gc.out; obtain rfl := Gd.out; obtain rfl := Ge.out; obtain rfl := Gf.out
    obtain rfl := HEX.out; obtain rfl := HEY.out; exact hS11
  · exact (hF1).trans ((hF2).trans ((hF3).trans ((hF4).trans ((hF5).trans ((hF6).trans ((SFrm.alloc _ _ _).trans ((hF7).trans ((SFrm.set _ _ _ _ (by omega)).trans ((SFrm.set _ _ _ _ (by omega)).trans ((SFrm.alloc _ _ _).trans ((hF9).trans ((SFrm.alloc _ _ _).trans ((hF10).trans ((SFrm.set _ _ _ _ (by omega)).trans ((SFrm.set _ _ _ _ (by omega)).trans ((SFrm.set _ _ _ _ (by omega)).trans ((SFrm.set _ _ _ _ (by omega)).trans ((SFrm.set _ _ _ _ (by omega)).trans ((SFrm.alloc _ _ _).trans ((SFrm.alloc _ _ _).trans (hF11)))))))))))))))))))))


set_option maxRecDepth 100000 in
set_option maxHeartbeats 8000000 in
theorem case_t1 {B ob oo ol oc k nb no nl nc : Nat} {ways o : Int} {zs : List Int} {s : SS} {w0 wr : World} {u : Nat → Value} {Q : Exit → Act → World → Prop}
    (hS : SpecSt B (.slice (some ⟨nb, no, none⟩) nl nc) ways w0 s wr) (hk : k < ol) (hol : ol ≤ 40) (hc : wr.cell? ⟨ob, oo + k, none⟩ = some (.int .u8 o)) (ho : 0 ≤ o ∧ o ≤ 255)
    (hl : zs.length = nl) (h1 : 1 ≤ nl) (h2 : nl ≤ 1000)
    (hcn : ∀ i, i < nl → w0.cell? ⟨nb, no + i, none⟩ = some (.int .i16 (zs.getD i 0))) (hwf : ∀ i, -32768 ≤ zs.getD i 0 ∧ zs.getD i 0 ≤ 32767) (hnb : nb < B) (hat : s.at_ ≤ 1000)
    (hx : -900000 ≤ s.here.1 ∧ s.here.1 ≤ 900000) (hy : -900000 ≤ s.here.2 ∧ s.here.2 ≤ 900000) (hlp : s.path.length ≤ 50000) (hlt : (encs (wideOf ways) s.toks).length ≤ 50000)
    (hopn : s.opn = true) (hm : o % 12 = 1)
    (hQ : ∀ t w', Fr4 B ob oo ol oc (k + 1) t → SpecSt B (.slice (some ⟨nb, no, none⟩) nl nc) ways w0 (stepM zs (twoOf ways) 1 s) w' → SFrm B wr w' → Q .normal ⟨t, []⟩ w') :
    Code.wp Tryz.prog body4 Q ⟨fr4 B ob oo ol oc k u, []⟩ wr := by
  have hop : wr.cell? ⟨B + 9, 0, none⟩ = some (.bool true) := by rw [blk_cell hS.copn, hopn]; rfl
  have HN := Lib.hid hcn
  have HW := Lib.hid hwf
  have HL := Lib.hid hl
  have HLP := Lib.hid hlp
  have HLT := Lib.hid hlt
  have HQ := Lib.hid hQ
  obtain ⟨hx1, hx2⟩ := hx
  obtain ⟨hy1, hy2⟩ := hy
  clear hcn hwf hl hopn hlp hlt hQ
  conv => arg 2; whnf
  unfold fr4
  go_wp2_with fail
  refine (next_st hS HL.out h1 h2 HN.out HW.out hnb (by (try dsimp only); omega)).mono ?_
  rintro e1 w1 ⟨rfl, hS1, hF1⟩
  go_wp2_with fail
  refine (next_st hS1 HL.out h1 h2 HN.out HW.out hnb (by (try dsimp only); omega)).mono ?_
  rintro e2 w2 ⟨rfl, hS2, hF2⟩
  go_wp2_with fail
  refine (next_st hS2 HL.out h1 h2 HN.out HW.out hnb (by (try dsimp only); omega)).mono ?_
  rintro e3 w3 ⟨rfl, hS3, hF3⟩
  go_wp2_with fail
  refine (next_st hS3 HL.out h1 h2 HN.out HW.out hnb (by (try dsimp only); omega)).mono ?_
  rintro e4 w4 ⟨rfl, hS4, hF4⟩
  go_wp2_with fail
  refine (next_st hS4 HL.out h1 h2 HN.out HW.out hnb (by (try dsimp only); omega)).mono ?_
  rintro e5 w5 ⟨rfl, hS5, hF5⟩
  go_wp2_with fail
  refine (next_st hS5 HL.out h1 h2 HN.out HW.out hnb (by (try dsimp only); omega)).mono ?_
  rintro e6 w6 ⟨rfl, hS6, hF6⟩
  have hh1 : w6.cell? ⟨B + 7, 0, none⟩ = some (.int .i64 s.here.1) := by rw [blk_cell hS6.chere]; rfl
  have hh2 : w6.cell? ⟨B + 7, 1, none⟩ = some (.int .i64 s.here.2) := by rw [blk_cell hS6.chere]; rfl
  go_wp2_with fail
  generalize ga : nx zs (s.at_ + 1) = a
  have ba : -499 ≤ a ∧ a ≤ 499 := by rw [← ga]; exact nx_bd _ _
  obtain ⟨ba1, ba2⟩ := ba
  have Ga := Lib.hid ga
  clear ga
  generalize gb : nx zs (s.at_ + 1 + 1) = b
  have bb : -499 ≤ b ∧ b ≤ 499 := by rw [← gb]; exact nx_bd _ _
  obtain ⟨bb1, bb2⟩ := bb
  have Gb := Lib.hid gb
  clear gb
  generalize gc : nx zs (s.at_ + 1 + 1 + 1) = c
  have bc : -499 ≤ c ∧ c ≤ 499 := by rw [← gc]; exact nx_bd _ _
  obtain ⟨bc1, bc2⟩ := bc
  have Gc := Lib.hid gc
  clear gc
  generalize gd : nx zs (s.at_ + 1 + 1 + 1 + 1) = d
  have bd : -499 ≤ d ∧ d ≤ 499 := by rw [← gd]; exact nx_bd _ _
  obtain ⟨bd1, bd2⟩ := bd
  have Gd := Lib.hid gd
  clear gd
  generalize ge : nx zs (s.at_ + 1 + 1 + 1 + 1 + 1) = e
  have be : -499 ≤ e ∧ e ≤ 499 := by rw [← ge]; exact nx_bd _ _
  obtain ⟨be1, be2⟩ := be
  have Ge := Lib.hid ge
  clear ge
  generalize gf : nx zs (s.at_ + 1 + 1 + 1 + 1 + 1 + 1) = f
  have bf : -499 ≤ f ∧ f ≤ 499 := by rw [← gf]; exact nx_bd _ _
  obtain ⟨bf1, bf2⟩ := bf
  have Gf := Lib.hid gf
  clear gf
  generalize hex : s.here.1 = x at hx1 hx2 hh1 ⊢
  generalize hey : s.here.2 = y at hy1 hy2 hh2 ⊢
  have HEX := Lib.hid hex
  have HEY := Lib.hid hey
  clear hex hey
  refine (closed_st (hS6.alloc _) (by have := HLP.out; (try dsimp only); omega)).mono ?_
  rintro e7 w7 ⟨rfl, hS7, hF7⟩
  have hbig6 := hS6.big
  have hwas : w7.heap[w6.heap.size]? = some (.cells #[.int .i64 x, .int .i64 y] 35 (0, 0)) := by
    rw [hF7.blk _ (by simp) (by omega) (isTy.ne (blk_at _ _ rfl) (by decide)) (isTy.ne (blk_at _ _ rfl) (by decide))]; exact blk_at _ _ rfl
  have q1 : w7.cell? ⟨w6.heap.size, 0, none⟩ = some (.int .i64 x) := by rw [blk_cell hwas]; rfl
  have q2 : w7.cell? ⟨w6.heap.size, 1, none⟩ = some (.int .i64 y) := by rw [blk_cell hwas]; rfl
  obtain ⟨p, hp⟩ : ∃ p, p = (closeS { s with at_ := s.at_ + 1 + 1 + 1 + 1 + 1 + 1 }).here := ⟨_, rfl⟩
  have q3 : w7.cell? ⟨B + 7, 0, none⟩ = some (.int .i64 p.1) := by rw [blk_cell hS7.chere, hp]; rfl
  have q4 : w7.cell? ⟨B + 7, 1, none⟩ = some (.int .i64 p.2) := by rw [blk_cell hS7.chere, hp]; rfl
  have q5 : w7.frozen? ⟨B + 7, 0, none⟩ = false := blk_free hS7.chere 0
  have q6 : w7.frozen? ⟨B + 7, 1, none⟩ = false := blk_free hS7.chere 1
  have hS8 := hS7.setHere x y
  have hs6 : w6.heap.size ≠ B + 7 := by omega
  have hT8 : (encs (wideOf ways) ({ closeS { s with at_ := s.at_ + 1 + 1 + 1 + 1 + 1 + 1 } with here := (x, y) } : SS).toks).length ≤ 50000 := by simp only [closeS_toks]; exact HLT.out
  have hP8 : ({ closeS { s with at_ := s.at_ + 1 + 1 + 1 + 1 + 1 + 1 } with here := (x, y) } : SS).path.length ≤ 50001 := by have := HLP.out; have h' := closeS_path { s with at_ := s.at_ + 1 + 1 + 1 + 1 + 1 + 1 }; dsimp only at h' ⊢; omega
  have HT8 := Lib.hid hT8
  have HP8 := Lib.hid hP8
  clear hT8 hP8 hp
  go_wp2_with fail
  refine (put_st (vs := [a]) (hS8.alloc _) (fun i hi => ?_) rfl (by simp) (blk_at _ _ (by simp)) (by have := hS8.big; (try simp only [World.size_setCell] at this ⊢); omega) (Nat.le_trans (HT8.out) (by simp))).mono ?_
  · match i, hi with
    | 0, _ => exact ⟨by simp only [List.getD_cons_zero]; omega, by simp only [List.getD_cons_zero]; omega⟩
  rintro e9 w9 ⟨rfl, hS9, hF9⟩
  obtain ⟨vo9, hvo9⟩ := hS9.outCell
  go_upto_region 41 with (at_builtin; refine wp_app_out (b := 22) (vo := vo9) (hS9.alloc _) (by rw [cell_past (by have := hS9.big; omega)]; exact hvo9) (Nat.le_trans (tl_put [a] (HT8.out)) (by simp)) (blk_at _ _ rfl) rfl _ _ rfl rfl rfl ?_; intro g10 n10 c10 w10 hS10 hF10 hc10 hf10)
  have r1 : (w10.setCell ⟨B + 3, 0, none⟩ (.slice (some ⟨g10, 0, none⟩) n10 c10)).cell? ⟨B + 7, 0, none⟩ = some (.int .i64 x) := (by rw [blk_cell hS10.chere]; rfl)
  have r2 : (w10.setCell ⟨B + 3, 0, none⟩ (.slice (some ⟨g10, 0, none⟩) n10 c10)).cell? ⟨B + 7, 1, none⟩ = some (.int .i64 y) := (by rw [blk_cell hS10.chere]; rfl)
  have r3 : (w10.setCell ⟨B + 3, 0, none⟩ (.slice (some ⟨g10, 0, none⟩) n10 c10)).cell? ⟨B + 8, 0, none⟩ = some (.int .i64 (closeS { s with at_ := s.at_ + 1 + 1 + 1 + 1 + 1 + 1 }).beg.1) := (by rw [blk_cell hS10.cbeg]; rfl)
  have r4 : (w10.setCell ⟨B + 3, 0, none⟩ (.slice (some ⟨g10, 0, none⟩) n10 c10)).cell? ⟨B + 8, 1, none⟩ = some (.int .i64 (closeS { s with at_ := s.at_ + 1 + 1 + 1 + 1 + 1 + 1 }).beg.2) := (by rw [blk_cell hS10.cbeg]; rfl)
  have r5 : (w10.setCell ⟨B + 3, 0, none⟩ (.slice (some ⟨g10, 0, none⟩) n10 c10)).cell? ⟨B + 9, 0, none⟩ = some (.bool (closeS { s with at_ := s.at_ + 1 + 1 + 1 + 1 + 1 + 1 }).opn) := (by rw [blk_cell hS10.copn]; rfl)
  have z1 : (w10.setCell ⟨B + 3, 0, none⟩ (.slice (some ⟨g10, 0, none⟩) n10 c10)).frozen? ⟨B + 7, 0, none⟩ = false := blk_free hS10.chere 0
  have z2 : (w10.setCell ⟨B + 3, 0, none⟩ (.slice (some ⟨g10, 0, none⟩) n10 c10)).frozen? ⟨B + 7, 1, none⟩ = false := blk_free hS10.chere 1
  have z3 : (w10.setCell ⟨B + 3, 0, none⟩ (.slice (some ⟨g10, 0, none⟩) n10 c10)).frozen? ⟨B + 8, 0, none⟩ = false := blk_free hS10.cbeg 0
  have z4 : (w10.setCell ⟨B + 3, 0, none⟩ (.slice (some ⟨g10, 0, none⟩) n10 c10)).frozen? ⟨B + 8, 1, none⟩ = false := blk_free hS10.cbeg 1
  have z5 : (w10.setCell ⟨B + 3, 0, none⟩ (.slice (some ⟨g10, 0, none⟩) n10 c10)).frozen? ⟨B + 9, 0, none⟩ = false := blk_free hS10.copn 0
  obtain ⟨vp, r6⟩ := hS10.pathCell
  have hbg := hS10.big
  have y5 : B + 5 < (w10.setCell ⟨B + 3, 0, none⟩ (.slice (some ⟨g10, 0, none⟩) n10 c10)).heap.size := (by omega)
  have y7 : B + 7 < (w10.setCell ⟨B + 3, 0, none⟩ (.slice (some ⟨g10, 0, none⟩) n10 c10)).heap.size := (by omega)
  generalize hW : (w10.setCell ⟨B + 3, 0, none⟩ (.slice (some ⟨g10, 0, none⟩) n10 c10)) = W at *
  clear hW
  go_wp2_with (at_builtin; refine wp_app_path (sg := ⟨0, [((x + a), y)]⟩) (g := W.heap.size) (a := W.heap.size + 1) (n := 1) (vp := vp) (by exact ((((hS10.setHere (x + a) y).setBeg (x + a) y).setOpn true).alloc _).alloc _) (by (repeat first | rw [cell_past (by (try simp only [World.size_alloc, World.size_setCell]); omega)] | rw [cell_set_ne (by omega)]); exact r6) (by have := HP8.out; (try dsimp only at this ⊢); omega) (by omega) (by rw [blk_alloc _ (by simp)]; exact blk_at _ _ (by simp)) rfl (blk_at _ _ (by simp)) rfl _ _ rfl rfl rfl ?_; intro g11 n11 c11 w11 hS11 hF11 hc11 hf11)
  refine HQ.out _ _ ⟨rfl, rfl, rfl, rfl, rfl, rfl, rfl, rfl, rfl, rfl, rfl, rfl, rfl, rfl, rfl⟩ ?_ ?_
  · obtain rfl := Ga.out; obtain rfl := Gb.out; obtain rfl := Gc.out; obtain rfl := Gd.out; obtain rfl := Ge.out; obtain rfl := Gf.out
    obtain rfl := HEX.out; obtain rfl := HEY.out; exact hS11
  · exact (hF1).trans ((hF2).trans ((hF3).trans ((hF4).trans ((hF5).trans ((hF6).trans ((SFrm.alloc _ _ _).trans ((hF7).trans ((SFrm.set _ _ _ _ (by omega)).trans ((SFrm.set _ _ _ _ (by omega)).trans ((SFrm.alloc _ _ _).trans ((hF9).trans ((SFrm.alloc _ _ _).trans ((hF10).trans ((SFrm.set _ _ _ _ (by omega)).trans ((SFrm.set _ _ _ _ (by omega)).trans ((SFrm.set _ _ _ _ (by omega)).trans ((SFrm.set _ _ _ _ (by omega)).trans ((SFrm.set _ _ _ _ (by omega)).trans ((SFrm.alloc _ _ _).trans ((SFrm.alloc _ _ _).trans (hF11)))))))))))))))))))))


set_option maxRecDepth 100000 in
set_option maxHeartbeats 8000000 in
theorem case_t2 {B ob oo ol oc k nb no nl nc : Nat} {ways o : Int} {zs : List Int} {s : SS} {w0 wr : World} {u : Nat → Value} {Q : Exit → Act → World → Prop}
    (hS : SpecSt B (.slice (some ⟨nb, no, none⟩) nl nc) ways w0 s wr) (hk : k < ol) (hol : ol ≤ 40) (hc : wr.cell? ⟨ob, oo + k, none⟩ = some (.int .u8 o)) (ho : 0 ≤ o ∧ o ≤ 255)
    (hl : zs.length = nl) (h1 : 1 ≤ nl) (h2 : nl ≤ 1000)
    (hcn : ∀ i, i < nl → w0.cell? ⟨nb, no + i, none⟩ = some (.int .i16 (zs.getD i 0))) (hwf : ∀ i, -32768 ≤ zs.getD i 0 ∧ zs.getD i 0 ≤ 32767) (hnb : nb < B) (hat : s.at_ ≤ 1000)
    (hx : -900000 ≤ s.here.1 ∧ s.here.1 ≤ 900000) (hy : -900000 ≤ s.here.2 ∧ s.here.2 ≤ 900000) (hlp : s.path.length ≤ 50000) (hlt : (encs (wideOf ways) s.toks).length ≤ 50000)
    (hopn : s.opn = true) (hm : o % 12 = 2)
    (hQ : ∀ t w', Fr4 B ob oo ol oc (k + 1) t → SpecSt B (.slice (some ⟨nb, no, none⟩) nl nc) ways w0 (stepM zs (twoOf ways) 2 s) w' → SFrm B wr w' → Q .normal ⟨t, []⟩ w') :
    Code.wp Tryz.prog body4 Q ⟨fr4 B ob oo ol oc k u, []⟩ wr := by
  have hop : wr.cell? ⟨B + 9, 0, none⟩ = some (.bool true) := by rw [blk_cell hS.copn, hopn]; rfl
  have HN := Lib.hid hcn
  have HW := Lib.hid hwf
  have HL := Lib.hid hl
  have HLP := Lib.hid hlp
  have HLT := Lib.hid hlt
  have HQ := Lib.hid hQ
  obtain ⟨hx1, hx2⟩ := hx
  obtain ⟨hy1, hy2⟩ := hy
  clear hcn hwf hl hopn hlp hlt hQ
  conv => arg 2; whnf
  unfold fr4
  go_wp2_with fail
  refine (next_st hS HL.out h1 h2 HN.out HW.out hnb (by (try dsimp only); omega)).mono ?_
  rintro e1 w1 ⟨rfl, hS1, hF1⟩
  go_wp2_with fail
  refine (next_st hS1 HL.out h1 h2 HN.out HW.out hnb (by (try dsimp only); omega)).mono ?_
  rintro e2 w2 ⟨rfl, hS2, hF2⟩
  go_wp2_with fail
  refine (next_st hS2 HL.out h1 h2 HN.out HW.out hnb (by (try dsimp only); omega)).mono ?_
  rintro e3 w3 ⟨rfl, hS3, hF3⟩
  go_wp2_with fail
  refine (next_st hS3 HL.out h1 h2 HN.out HW.out hnb (by (try dsimp only); omega)).mono ?_
  rintro e4 w4 ⟨rfl, hS4, hF4⟩
  go_wp2_with fail
  refine (next_st hS4 HL.out h1 h2 HN.out HW.out hnb (by (try dsimp only); omega)).mono ?_
  rintro e5 w5 ⟨rfl, hS5, hF5⟩
  go_wp2_with fail
  refine (next_st hS5 HL.out h1 h2 HN.out HW.out hnb (by (try dsimp only); omega)).mono ?_
  rintro e6 w6 ⟨rfl, hS6, hF6⟩
  have hh1 : w6.cell? ⟨B + 7, 0, none⟩ = some (.int .i64 s.here.1) := by rw [blk_cell hS6.chere]; rfl
  have hh2 : w6.cell? ⟨B + 7, 1, none⟩ = some (.int .i64 s.here.2) := by rw [blk_cell hS6.chere]; rfl
  go_wp2_with fail
  generalize ga : nx zs (s.at_ + 1) = a
  have ba : -499 ≤ a ∧ a ≤ 499 := by rw [← ga]; exact nx_bd _ _
  obtain ⟨ba1, ba2⟩ := ba
  have Ga := Lib.hid ga
  clear ga
  generalize gb : nx zs (s.at_ + 1 + 1) = b
  have bb : -499 ≤ b ∧ b ≤ 499 := by rw [← gb]; exact nx_bd _ _
  obtain ⟨bb1, bb2⟩ := bb
  have Gb := Lib.hid gb
  clear gb
  generalize gc : nx zs (s.at_ + 1 + 1 + 1) = c
  have bc : -499 ≤ c ∧ c ≤ 499 := by rw [← gc]; exact nx_bd _ _
  obtain ⟨bc1, bc2⟩ := bc
  have Gc := Lib.hid gc
  clear gc
  generalize gd : nx zs (s.at_ + 1 + 1 + 1 + 1) = d
  have bd : -499 ≤ d ∧ d ≤ 499 := by rw [← gd]; exact nx_bd _ _
  obtain ⟨bd1, bd2⟩ := bd
  have Gd := Lib.hid gd
  clear gd
  generalize ge : nx zs (s.at_ + 1 + 1 + 1 + 1 + 1) = e
  have be : -499 ≤ e ∧ e ≤ 499 := by rw [← ge]; exact nx_bd _ _
  obtain ⟨be1, be2⟩ := be
  have Ge := Lib.hid ge
  clear ge
  generalize gf : nx zs (s.at_ + 1 + 1 + 1 + 1 + 1 + 1) = f
  have bf : -499 ≤ f ∧ f ≤ 499 := by rw [← gf]; exact nx_bd _ _
  obtain ⟨bf1, bf2⟩ := bf
  have Gf := Lib.hid gf
  clear gf
  generalize hex : s.here.1 = x at hx1 hx2 hh1 ⊢
  generalize hey : s.here.2 = y at hy1 hy2 hh2 ⊢
  have HEX := Lib.hid hex
  have HEY := Lib.hid hey
  clear hex hey
  refine (closed_st (hS6.alloc _) (by have := HLP.out; (try dsimp only); omega)).mono ?_
  rintro e7 w7 ⟨rfl, hS7, hF7⟩
  have hbig6 := hS6.big
  have hwas : w7.heap[w6.heap.size]? = some (.cells #[.int .i64 x, .int .i64 y] 35 (0, 0)) := by
    rw [hF7.blk _ (by simp) (by omega) (isTy.ne (blk_at _ _ rfl) (by decide)) (isTy.ne (blk_at _ _ rfl) (by decide))]; exact blk_at _ _ rfl
  have q1 : w7.cell? ⟨w6.heap.size, 0, none⟩ = some (.int .i64 x) := by rw [blk_cell hwas]; rfl
  have q2 : w7.cell? ⟨w6.heap.size, 1, none⟩ = some (.int .i64 y) := by rw [blk_cell hwas]; rfl
  obtain ⟨p, hp⟩ : ∃ p, p = (closeS { s with at_ := s.at_ + 1 + 1 + 1 + 1 + 1 + 1 }).here := ⟨_, rfl⟩
  have q3 : w7.cell? ⟨B + 7, 0, none⟩ = some (.int .i64 p.1) := by rw [blk_cell hS7.chere, hp]; rfl
  have q4 : w7.cell? ⟨B + 7, 1, none⟩ = some (.int .i64 p.2) := by rw [blk_cell hS7.chere, hp]; rfl
  have q5 : w7.frozen? ⟨B + 7, 0, none⟩ = false := blk_free hS7.chere 0
  have q6 : w7.frozen? ⟨B + 7, 1, none⟩ = false := blk_free hS7.chere 1
  have hS8 := hS7.setHere x y
  have hs6 : w6.heap.size ≠ B + 7 := by omega
  have hT8 : (encs (wideOf ways) ({ closeS { s with at_ := s.at_ + 1 + 1 + 1 + 1 + 1 + 1 } with here := (x, y) } : SS).toks).length ≤ 50000 := by simp only [closeS_toks]; exact HLT.out
  have hP8 : ({ closeS { s with at_ := s.at_ + 1 + 1 + 1 + 1 + 1 + 1 } with here := (x, y) } : SS).path.length ≤ 50001 := by have := HLP.out; have h' := closeS_path { s with at_ := s.at_ + 1 + 1 + 1 + 1 + 1 + 1 }; dsimp only at h' ⊢; omega
  have HT8 := Lib.hid hT8
  have HP8 := Lib.hid hP8
  clear hT8 hP8 hp
  go_wp2_with fail
  refine (put_st (vs := [b]) (hS8.alloc _) (fun i hi => ?_) rfl (by simp) (blk_at _ _ (by simp)) (by have := hS8.big; (try simp only [World.size_setCell] at this ⊢); omega) (Nat.le_trans (HT8.out) (by simp))).mono ?_
  · match i, hi with
    | 0, _ => exact ⟨by simp only [List.getD_cons_zero]; omega, by simp only [List.getD_cons_zero]; omega⟩
  rintro e9 w9 ⟨rfl, hS9, hF9⟩
  obtain ⟨vo9, hvo9⟩ := hS9.outCell
  go_upto_region 41 with (at_builtin; refine wp_app_out (b := 4) (vo := vo9) (hS9.alloc _) (by rw [cell_past (by have := hS9.big; omega)]; exact hvo9) (Nat.le_trans (tl_put [b] (HT8.out)) (by simp)) (blk_at _ _ rfl) rfl _ _ rfl rfl rfl ?_; intro g10 n10 c10 w10 hS10 hF10 hc10 hf10)
  have r1 : (w10.setCell ⟨B + 3, 0, none⟩ (.slice (some ⟨g10, 0, none⟩) n10 c10)).cell? ⟨B + 7, 0, none⟩ = some (.int .i64 x) := (by rw [blk_cell hS10.chere]; rfl)
  have r2 : (w10.setCell ⟨B + 3, 0, none⟩ (.slice (some ⟨g10, 0, none⟩) n10 c10)).cell? ⟨B + 7, 1, none⟩ = some (.int .i64 y) := (by rw [blk_cell hS10.chere]; rfl)
  have r3 : (w10.setCell ⟨B + 3, 0, none⟩ (.slice (some ⟨g10, 0, none⟩) n10 c10)).cell? ⟨B + 8, 0, none⟩ = some (.int .i64 (closeS { s with at_ := s.at_ + 1 + 1 + 1 + 1 + 1 + 1 }).beg.1) := (by rw [blk_cell hS10.cbeg]; rfl)
  have r4 : (w10.setCell ⟨B + 3, 0, none⟩ (.slice (some ⟨g10, 0, none⟩) n10 c10)).cell? ⟨B + 8, 1, none⟩ = some (.int .i64 (closeS { s with at_ := s.at_ + 1 + 1 + 1 + 1 + 1 + 1 }).beg.2) := (by rw [blk_cell hS10.cbeg]; rfl)
  have r5 : (w10.setCell ⟨B + 3, 0, none⟩ (.slice (some ⟨g10, 0, none⟩) n10 c10)).cell? ⟨B + 9, 0, none⟩ = some (.bool (closeS { s with at_ := s.at_ + 1 + 1 + 1 + 1 + 1 + 1 }).opn) := (by rw [blk_cell hS10.copn]; rfl)
  have z1 : (w10.setCell ⟨B + 3, 0, none⟩ (.slice (some ⟨g10, 0, none⟩) n10 c10)).frozen? ⟨B + 7, 0, none⟩ = false := blk_free hS10.chere 0
  have z2 : (w10.setCell ⟨B + 3, 0, none⟩ (.slice (some ⟨g10, 0, none⟩) n10 c10)).frozen? ⟨B + 7, 1, none⟩ = false := blk_free hS10.chere 1
  have z3 : (w10.setCell ⟨B + 3, 0, none⟩ (.slice (some ⟨g10, 0, none⟩) n10 c10)).frozen? ⟨B + 8, 0, none⟩ = false := blk_free hS10.cbeg 0
  have z4 : (w10.setCell ⟨B + 3, 0, none⟩ (.slice (some ⟨g10, 0, none⟩) n10 c10)).frozen? ⟨B + 8, 1, none⟩ = false := blk_free hS10.cbeg 1
  have z5 : (w10.setCell ⟨B + 3, 0, none⟩ (.slice (some ⟨g10, 0, none⟩) n10 c10)).frozen? ⟨B + 9, 0, none⟩ = false := blk_free hS10.copn 0
  obtain ⟨vp, r6⟩ := hS10.pathCell
  have hbg := hS10.big
  have y5 : B + 5 < (w10.setCell ⟨B + 3, 0, none⟩ (.slice (some ⟨g10, 0, none⟩) n10 c10)).heap.size := (by omega)
  have y7 : B + 7 < (w10.setCell ⟨B + 3, 0, none⟩ (.slice (some ⟨g10, 0, none⟩) n10 c10)).heap.size := (by omega)
  generalize hW : (w10.setCell ⟨B + 3, 0, none⟩ (.slice (some ⟨g10, 0, none⟩) n10 c10)) = W at *
  clear hW
  go_wp2_with (at_builtin; refine wp_app_path (sg := ⟨0, [(x, (y + b))]⟩) (g := W.heap.size) (a := W.heap.size + 1) (n := 1) (vp := vp) (by exact ((((hS10.setHere x (y + b)).setBeg x (y + b)).setOpn true).alloc _).alloc _) (by (repeat first | rw [cell_past (by (try simp only [World.size_alloc, World.size_setCell]); omega)] | rw [cell_set_ne (by omega)]); exact r6) (by have := HP8.out; (try dsimp only at this ⊢); omega) (by omega) (by rw [blk_alloc _ (by simp)]; exact blk_at _ _ (by simp)) rfl (blk_at _ _ (by simp)) rfl _ _ rfl rfl rfl ?_; intro g11 n11 c11 w11 hS11 hF11 hc11 hf11)
  refine HQ.out _ _ ⟨rfl, rfl, rfl, rfl, rfl, rfl, rfl, rfl, rfl, rfl, rfl, rfl, rfl, rfl, rfl⟩ ?_ ?_
  · obtain rfl := Ga.out; obtain rfl := Gb.out; obtain rfl := Gc.out; obtain rfl := Gd.out; obtain rfl := Ge.out; obtain rfl := Gf.out
    obtain rfl := HEX.out; obtain rfl := HEY.out; exact hS11
  · exact (hF1).trans ((hF2).trans ((hF3).trans ((hF4).trans ((hF5).trans ((hF6).trans ((SFrm.alloc _ _ _).trans ((hF7).trans ((SFrm.set _ _ _ _ (by omega)).trans ((SFrm.set _ _ _ _ (by omega)).trans ((SFrm.alloc _ _ _).trans ((hF9).trans ((SFrm.alloc _ _ _).trans ((hF10).trans ((SFrm.set _ _ _ _ (by omega)).trans ((SFrm.set _ _ _ _ (by omega)).trans ((SFrm.set _ _ _ _ (by omega)).trans ((SFrm.set _ _ _ _ (by omega)).trans ((SFrm.set _ _ _ _ (by omega)).trans ((SFrm.alloc _ _ _).trans ((SFrm.alloc _ _ _).trans (hF11)))))))))))))))))))))

end Go.Proofs.YtoanpkfekhkaoaaGreatDoor
