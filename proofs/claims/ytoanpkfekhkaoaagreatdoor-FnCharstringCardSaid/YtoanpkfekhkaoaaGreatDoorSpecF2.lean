/-
  Rounds of the reference's loop, cases 6, 7, 8, where a contour is open. Conditions: the loop's frame.
-/
import Derived.Test.YtoanpkfekhkaoaaGreatDoorSpecE
import Derived.Deep.Cut
namespace Go.Proofs.YtoanpkfekhkaoaaGreatDoor
open Go Go.RowKit


set_option maxRecDepth 100000 in
set_option maxHeartbeats 8000000 in
theorem case_t6 {B ob oo ol oc k nb no nl nc : Nat} {ways o : Int} {zs : List Int} {s : SS} {w0 wr : World} {u : Nat → Value} {Q : Exit → Act → World → Prop}
    (hS : SpecSt B (.slice (some ⟨nb, no, none⟩) nl nc) ways w0 s wr) (hk : k < ol) (hol : ol ≤ 40) (hc : wr.cell? ⟨ob, oo + k, none⟩ = some (.int .u8 o)) (ho : 0 ≤ o ∧ o ≤ 255)
    (hl : zs.length = nl) (h1 : 1 ≤ nl) (h2 : nl ≤ 1000)
    (hcn : ∀ i, i < nl → w0.cell? ⟨nb, no + i, none⟩ = some (.int .i16 (zs.getD i 0))) (hwf : ∀ i, -32768 ≤ zs.getD i 0 ∧ zs.getD i 0 ≤ 32767) (hnb : nb < B) (hat : s.at_ ≤ 1000)
    (hx : -900000 ≤ s.here.1 ∧ s.here.1 ≤ 900000) (hy : -900000 ≤ s.here.2 ∧ s.here.2 ≤ 900000) (hlp : s.path.length ≤ 50000) (hlt : (encs (wideOf ways) s.toks).length ≤ 50000)
    (hopn : s.opn = true) (hm : o % 12 = 6)
    (hQ : ∀ t w', Fr4 B ob oo ol oc (k + 1) t → SpecSt B (.slice (some ⟨nb, no, none⟩) nl nc) ways w0 (stepM zs (twoOf ways) 6 s) w' → SFrm B wr w' → Q .normal ⟨t, []⟩ w') :
    Code.wp Tryz.prog body4 Q ⟨fr4 B ob oo ol oc k u, []⟩ wr := by
  have hop : wr.cell? ⟨B + 9, 0, none⟩ = some (.bool true) := by rw [blk_cell hS.copn, hopn]; rfl
  have HN := Lib.hid hcn
  have HW := Lib.hid hwf
  have HL := Lib.hid hl
  have HLP := Lib.hid hlp
  have HLT := Lib.hid hlt
  have HQ := Lib.hid hQ
  obtain ⟨hx1, hx2⟩ := hx
  obtain ⟨hy1, hy2⟩ := hy
  clear hcn hwf hl hopn hlp hlt hQ
  conv => arg 2; whnf
  unfold fr4
  go_wp2_with fail
  refine (next_st hS HL.out h1 h2 HN.out HW.out hnb (by (try dsimp only); omega)).mono ?_
  rintro e1 w1 ⟨rfl, hS1, hF1⟩
  go_wp2_with fail
  refine (next_st hS1 HL.out h1 h2 HN.out HW.out hnb (by (try dsimp only); omega)).mono ?_
  rintro e2 w2 ⟨rfl, hS2, hF2⟩
  go_wp2_with fail
  refine (next_st hS2 HL.out h1 h2 HN.out HW.out hnb (by (try dsimp only); omega)).mono ?_
  rintro e3 w3 ⟨rfl, hS3, hF3⟩
  go_wp2_with fail
  refine (next_st hS3 HL.out h1 h2 HN.out HW.out hnb (by (try dsimp only); omega)).mono ?_
  rintro e4 w4 ⟨rfl, hS4, hF4⟩
  go_wp2_with fail
  refine (next_st hS4 HL.out h1 h2 HN.out HW.out hnb (by (try dsimp only); omega)).mono ?_
  rintro e5 w5 ⟨rfl, hS5, hF5⟩
  go_wp2_with fail
  refine (next_st hS5 HL.out h1 h2 HN.out HW.out hnb (by (try dsimp only); omega)).mono ?_
  rintro e6 w6 ⟨rfl, hS6, hF6⟩
  go_wp2_with fail
  generalize ga : nx zs (s.at_ + 1) = a
  have ba : -499 ≤ a ∧ a ≤ 499 := by rw [← ga]; exact nx_bd _ _
  obtain ⟨ba1, ba2⟩ := ba
  have Ga := Lib.hid ga
  clear ga
  generalize gb : nx zs (s.at_ + 1 + 1) = b
  have bb : -499 ≤ b ∧ b ≤ 499 := by rw [← gb]; exact nx_bd _ _
  obtain ⟨bb1, bb2⟩ := bb
  have Gb := Lib.hid gb
  clear gb
  generalize gc : nx zs (s.at_ + 1 + 1 + 1) = c
  have bc : -499 ≤ c ∧ c ≤ 499 := by rw [← gc]; exact nx_bd _ _
  obtain ⟨bc1, bc2⟩ := bc
  have Gc := Lib.hid gc
  clear gc
  generalize gd : nx zs (s.at_ + 1 + 1 + 1 + 1) = d
  have bd : -499 ≤ d ∧ d ≤ 499 := by rw [← gd]; exact nx_bd _ _
  obtain ⟨bd1, bd2⟩ := bd
  have Gd := Lib.hid gd
  clear gd
  generalize ge : nx zs (s.at_ + 1 + 1 + 1 + 1 + 1) = e
  have be : -499 ≤ e ∧ e ≤ 499 := by rw [← ge]; exact nx_bd _ _
  obtain ⟨be1, be2⟩ := be
  have Ge := Lib.hid ge
  clear ge
  generalize gf : nx zs (s.at_ + 1 + 1 + 1 + 1 + 1 + 1) = f
  have bf : -499 ≤ f ∧ f ≤ 499 := by rw [← gf]; exact nx_bd _ _
  obtain ⟨bf1, bf2⟩ := bf
  have Gf := Lib.hid gf
  clear gf
  go_wp2_with fail
  refine (put_st (vs := [a, b, c, d, e, f]) (hS6.alloc _) (fun i hi => ?_) rfl (by simp) (blk_at _ _ (by simp)) (by have := hS6.big; (try simp only [World.size_setCell] at this ⊢); omega) (Nat.le_trans (HLT.out) (by simp))).mono ?_
  · match i, hi with
    | 0, _ => exact ⟨by simp only [List.getD_cons_zero]; omega, by simp only [List.getD_cons_zero]; omega⟩
    | 1, _ => exact ⟨by simp only [List.getD_cons_zero, List.getD_cons_succ]; omega, by simp only [List.getD_cons_zero, List.getD_cons_succ]; omega⟩
    | 2, _ => exact ⟨by simp only [List.getD_cons_zero, List.getD_cons_succ]; omega, by simp only [List.getD_cons_zero, List.getD_cons_succ]; omega⟩
    | 3, _ => exact ⟨by simp only [List.getD_cons_zero, List.getD_cons_succ]; omega, by simp only [List.getD_cons_zero, List.getD_cons_succ]; omega⟩
    | 4, _ => exact ⟨by simp only [List.getD_cons_zero, List.getD_cons_succ]; omega, by simp only [List.getD_cons_zero, List.getD_cons_succ]; omega⟩
    | 5, _ => exact ⟨by simp only [List.getD_cons_zero, List.getD_cons_succ]; omega, by simp only [List.getD_cons_zero, List.getD_cons_succ]; omega⟩
  rintro e7 w7 ⟨rfl, hS7, hF7⟩
  obtain ⟨vo7, hvo7⟩ := hS7.outCell
  go_wp2_with (at_builtin; refine wp_app_out (b := 8) (vo := vo7) (hS7.alloc _) (by rw [cell_past (by have := hS7.big; omega)]; exact hvo7) (Nat.le_trans (tl_put [a, b, c, d, e, f] (HLT.out)) (by simp)) (blk_at _ _ rfl) rfl _ _ rfl rfl rfl ?_; intro g8 n8 c8 w8 hS8 hF8 hc8 hf8)
  refine (curve_st hS8 ⟨by (try dsimp only); omega, by (try dsimp only); omega⟩ ⟨by (try dsimp only); omega, by (try dsimp only); omega⟩ ⟨by omega, by omega⟩ ⟨by omega, by omega⟩ ⟨by omega, by omega⟩ ⟨by omega, by omega⟩ ⟨by omega, by omega⟩ ⟨by omega, by omega⟩ (by have := HLP.out; (try simp only []); omega)).mono ?_
  rintro e9 w9 ⟨rfl, hS9, hF9⟩
  go_wp2_with fail
  refine HQ.out _ _ ⟨rfl, rfl, rfl, rfl, rfl, rfl, rfl, rfl, rfl, rfl, rfl, rfl, rfl, rfl, rfl⟩ ?_ ?_
  · obtain rfl := Ga.out; obtain rfl := Gb.out; obtain rfl := Gc.out; obtain rfl := Gd.out; obtain rfl := Ge.out; obtain rfl := Gf.out
    exact hS9
  · exact (hF1).trans ((hF2).trans ((hF3).trans ((hF4).trans ((hF5).trans ((hF6).trans ((SFrm.alloc _ _ _).trans ((hF7).trans ((SFrm.alloc _ _ _).trans ((hF8).trans (hF9))))))))))


set_option maxRecDepth 100000 in
set_option maxHeartbeats 8000000 in
theorem case_t7 {B ob oo ol oc k nb no nl nc : Nat} {ways o : Int} {zs : List Int} {s : SS} {w0 wr : World} {u : Nat → Value} {Q : Exit → Act → World → Prop}
    (hS : SpecSt B (.slice (some ⟨nb, no, none⟩) nl nc) ways w0 s wr) (hk : k < ol) (hol : ol ≤ 40) (hc : wr.cell? ⟨ob, oo + k, none⟩ = some (.int .u8 o)) (ho : 0 ≤ o ∧ o ≤ 255)
    (hl : zs.length = nl) (h1 : 1 ≤ nl) (h2 : nl ≤ 1000)
    (hcn : ∀ i, i < nl → w0.cell? ⟨nb, no + i, none⟩ = some (.int .i16 (zs.getD i 0))) (hwf : ∀ i, -32768 ≤ zs.getD i 0 ∧ zs.getD i 0 ≤ 32767) (hnb : nb < B) (hat : s.at_ ≤ 1000)
    (hx : -900000 ≤ s.here.1 ∧ s.here.1 ≤ 900000) (hy : -900000 ≤ s.here.2 ∧ s.here.2 ≤ 900000) (hlp : s.path.length ≤ 50000) (hlt : (encs (wideOf ways) s.toks).length ≤ 50000)
    (hopn : s.opn = true) (hm : o % 12 = 7)
    (hQ : ∀ t w', Fr4 B ob oo ol oc (k + 1) t → SpecSt B (.slice (some ⟨nb, no, none⟩) nl nc) ways w0 (stepM zs (twoOf ways) 7 s) w' → SFrm B wr w' → Q .normal ⟨t, []⟩ w') :
    Code.wp Tryz.prog body4 Q ⟨fr4 B ob oo ol oc k u, []⟩ wr := by
  have hop : wr.cell? ⟨B + 9, 0, none⟩ = some (.bool true) := by rw [blk_cell hS.copn, hopn]; rfl
  have HN := Lib.hid hcn
  have HW := Lib.hid hwf
  have HL := Lib.hid hl
  have HLP := Lib.hid hlp
  have HLT := Lib.hid hlt
  have HQ := Lib.hid hQ
  obtain ⟨hx1, hx2⟩ := hx
  obtain ⟨hy1, hy2⟩ := hy
  clear hcn hwf hl hopn hlp hlt hQ
  conv => arg 2; whnf
  unfold fr4
  go_wp2_with fail
  refine (next_st hS HL.out h1 h2 HN.out HW.out hnb (by (try dsimp only); omega)).mono ?_
  rintro e1 w1 ⟨rfl, hS1, hF1⟩
  go_wp2_with fail
  refine (next_st hS1 HL.out h1 h2 HN.out HW.out hnb (by (try dsimp only); omega)).mono ?_
  rintro e2 w2 ⟨rfl, hS2, hF2⟩
  go_wp2_with fail
  refine (next_st hS2 HL.out h1 h2 HN.out HW.out hnb (by (try dsimp only); omega)).mono ?_
  rintro e3 w3 ⟨rfl, hS3, hF3⟩
  go_wp2_with fail
  refine (next_st hS3 HL.out h1 h2 HN.out HW.out hnb (by (try dsimp only); omega)).mono ?_
  rintro e4 w4 ⟨rfl, hS4, hF4⟩
  go_wp2_with fail
  refine (next_st hS4 HL.out h1 h2 HN.out HW.out hnb (by (try dsimp only); omega)).mono ?_
  rintro e5 w5 ⟨rfl, hS5, hF5⟩
  go_wp2_with fail
  refine (next_st hS5 HL.out h1 h2 HN.out HW.out hnb (by (try dsimp only); omega)).mono ?_
  rintro e6 w6 ⟨rfl, hS6, hF6⟩
  go_wp2_with fail
  generalize ga : nx zs (s.at_ + 1) = a
  have ba : -499 ≤ a ∧ a ≤ 499 := by rw [← ga]; exact nx_bd _ _
  obtain ⟨ba1, ba2⟩ := ba
  have Ga := Lib.hid ga
  clear ga
  generalize gb : nx zs (s.at_ + 1 + 1) = b
  have bb : -499 ≤ b ∧ b ≤ 499 := by rw [← gb]; exact nx_bd _ _
  obtain ⟨bb1, bb2⟩ := bb
  have Gb := Lib.hid gb
  clear gb
  generalize gc : nx zs (s.at_ + 1 + 1 + 1) = c
  have bc : -499 ≤ c ∧ c ≤ 499 := by rw [← gc]; exact nx_bd _ _
  obtain ⟨bc1, bc2⟩ := bc
  have Gc := Lib.hid gc
  clear gc
  generalize gd : nx zs (s.at_ + 1 + 1 + 1 + 1) = d
  have bd : -499 ≤ d ∧ d ≤ 499 := by rw [← gd]; exact nx_bd _ _
  obtain ⟨bd1, bd2⟩ := bd
  have Gd := Lib.hid gd
  clear gd
  generalize ge : nx zs (s.at_ + 1 + 1 + 1 + 1 + 1) = e
  have be : -499 ≤ e ∧ e ≤ 499 := by rw [← ge]; exact nx_bd _ _
  obtain ⟨be1, be2⟩ := be
  have Ge := Lib.hid ge
  clear ge
  generalize gf : nx zs (s.at_ + 1 + 1 + 1 + 1 + 1 + 1) = f
  have bf : -499 ≤ f ∧ f ≤ 499 := by rw [← gf]; exact nx_bd _ _
  obtain ⟨bf1, bf2⟩ := bf
  have Gf := Lib.hid gf
  clear gf
  go_wp2_with fail
  refine (put_st (vs := [a, b, c, d, e, f, b, a]) (hS6.alloc _) (fun i hi => ?_) rfl (by simp) (blk_at _ _ (by simp)) (by have := hS6.big; (try simp only [World.size_setCell] at this ⊢); omega) (Nat.le_trans (HLT.out) (by simp))).mono ?_
  · match i, hi with
    | 0, _ => exact ⟨by simp only [List.getD_cons_zero]; omega, by simp only [List.getD_cons_zero]; omega⟩
    | 1, _ => exact ⟨by simp only [List.getD_cons_zero, List.getD_cons_succ]; omega, by simp only [List.getD_cons_zero, List.getD_cons_succ]; omega⟩
    | 2, _ => exact ⟨by simp only [List.getD_cons_zero, List.getD_cons_succ]; omega, by simp only [List.getD_cons_zero, List.getD_cons_succ]; omega⟩
    | 3, _ => exact ⟨by simp only [List.getD_cons_zero, List.getD_cons_succ]; omega, by simp only [List.getD_cons_zero, List.getD_cons_succ]; omega⟩
    | 4, _ => exact ⟨by simp only [List.getD_cons_zero, List.getD_cons_succ]; omega, by simp only [List.getD_cons_zero, List.getD_cons_succ]; omega⟩
    | 5, _ => exact ⟨by simp only [List.getD_cons_zero, List.getD_cons_succ]; omega, by simp only [List.getD_cons_zero, List.getD_cons_succ]; omega⟩
    | 6, _ => exact ⟨by simp only [List.getD_cons_zero, List.getD_cons_succ]; omega, by simp only [List.getD_cons_zero, List.getD_cons_succ]; omega⟩
    | 7, _ => exact ⟨by simp only [List.getD_cons_zero, List.getD_cons_succ]; omega, by simp only [List.getD_cons_zero, List.getD_cons_succ]; omega⟩
  rintro e7 w7 ⟨rfl, hS7, hF7⟩
  obtain ⟨vo7, hvo7⟩ := hS7.outCell
  go_wp2_with (at_builtin; refine wp_app_out (b := 24) (vo := vo7) (hS7.alloc _) (by rw [cell_past (by have := hS7.big; omega)]; exact hvo7) (Nat.le_trans (tl_put [a, b, c, d, e, f, b, a] (HLT.out)) (by simp)) (blk_at _ _ rfl) rfl _ _ rfl rfl rfl ?_; intro g8 n8 c8 w8 hS8 hF8 hc8 hf8)
  refine (curve_st hS8 ⟨by (try dsimp only); omega, by (try dsimp only); omega⟩ ⟨by (try dsimp only); omega, by (try dsimp only); omega⟩ ⟨by omega, by omega⟩ ⟨by omega, by omega⟩ ⟨by omega, by omega⟩ ⟨by omega, by omega⟩ ⟨by omega, by omega⟩ ⟨by omega, by omega⟩ (by have := HLP.out; (try simp only []); omega)).mono ?_
  rintro e9 w9 ⟨rfl, hS9, hF9⟩
  go_wp2_with fail
  refine (line_st hS9 ⟨by (try dsimp only); omega, by (try dsimp only); omega⟩ ⟨by (try dsimp only); omega, by (try dsimp only); omega⟩ ⟨by omega, by omega⟩ ⟨by omega, by omega⟩ (by have := HLP.out; (try simp only [List.length_append, List.length_cons, List.length_nil]); omega)).mono ?_
  rintro e10 w10 ⟨rfl, hS10, hF10⟩
  go_wp2_with fail
  refine HQ.out _ _ ⟨rfl, rfl, rfl, rfl, rfl, rfl, rfl, rfl, rfl, rfl, rfl, rfl, rfl, rfl, rfl⟩ ?_ ?_
  · obtain rfl := Ga.out; obtain rfl := Gb.out; obtain rfl := Gc.out; obtain rfl := Gd.out; obtain rfl := Ge.out; obtain rfl := Gf.out
    exact hS10
  · exact (hF1).trans ((hF2).trans ((hF3).trans ((hF4).trans ((hF5).trans ((hF6).trans ((SFrm.alloc _ _ _).trans ((hF7).trans ((SFrm.alloc _ _ _).trans ((hF8).trans ((hF9).trans (hF10)))))))))))


set_option maxRecDepth 100000 in
set_option maxHeartbeats 8000000 in
theorem case_t8 {B ob oo ol oc k nb no nl nc : Nat} {ways o : Int} {zs : List Int} {s : SS} {w0 wr : World} {u : Nat → Value} {Q : Exit → Act → World → Prop}
    (hS : SpecSt B (.slice (some ⟨nb, no, none⟩) nl nc) ways w0 s wr) (hk : k < ol) (hol : ol ≤ 40) (hc : wr.cell? ⟨ob, oo + k, none⟩ = some (.int .u8 o)) (ho : 0 ≤ o ∧ o ≤ 255)
    (hl : zs.length = nl) (h1 : 1 ≤ nl) (h2 : nl ≤ 1000)
    (hcn : ∀ i, i < nl → w0.cell? ⟨nb, no + i, none⟩ = some (.int .i16 (zs.getD i 0))) (hwf : ∀ i, -32768 ≤ zs.getD i 0 ∧ zs.getD i 0 ≤ 32767) (hnb : nb < B) (hat : s.at_ ≤ 1000)
    (hx : -900000 ≤ s.here.1 ∧ s.here.1 ≤ 900000) (hy : -900000 ≤ s.here.2 ∧ s.here.2 ≤ 900000) (hlp : s.path.length ≤ 50000) (hlt : (encs (wideOf ways) s.toks).length ≤ 50000)
    (hopn : s.opn = true) (hm : o % 12 = 8)
    (hQ : ∀ t w', Fr4 B ob oo ol oc (k + 1) t → SpecSt B (.slice (some ⟨nb, no, none⟩) nl nc) ways w0 (stepM zs (twoOf ways) 8 s) w' → SFrm B wr w' → Q .normal ⟨t, []⟩ w') :
    Code.wp Tryz.prog body4 Q ⟨fr4 B ob oo ol oc k u, []⟩ wr := by
  have hop : wr.cell? ⟨B + 9, 0, none⟩ = some (.bool true) := by rw [blk_cell hS.copn, hopn]; rfl
  have HN := Lib.hid hcn
  have HW := Lib.hid hwf
  have HL := Lib.hid hl
  have HLP := Lib.hid hlp
  have HLT := Lib.hid hlt
  have HQ := Lib.hid hQ
  obtain ⟨hx1, hx2⟩ := hx
  obtain ⟨hy1, hy2⟩ := hy
  clear hcn hwf hl hopn hlp hlt hQ
  conv => arg 2; whnf
  unfold fr4
  go_wp2_with fail
  refine (next_st hS HL.out h1 h2 HN.out HW.out hnb (by (try dsimp only); omega)).mono ?_
  rintro e1 w1 ⟨rfl, hS1, hF1⟩
  go_wp2_with fail
  refine (next_st hS1 HL.out h1 h2 HN.out HW.out hnb (by (try dsimp only); omega)).mono ?_
  rintro e2 w2 ⟨rfl, hS2, hF2⟩
  go_wp2_with fail
  refine (next_st hS2 HL.out h1 h2 HN.out HW.out hnb (by (try dsimp only); omega)).mono ?_
  rintro e3 w3 ⟨rfl, hS3, hF3⟩
  go_wp2_with fail
  refine (next_st hS3 HL.out h1 h2 HN.out HW.out hnb (by (try dsimp only); omega)).mono ?_
  rintro e4 w4 ⟨rfl, hS4, hF4⟩
  go_wp2_with fail
  refine (next_st hS4 HL.out h1 h2 HN.out HW.out hnb (by (try dsimp only); omega)).mono ?_
  rintro e5 w5 ⟨rfl, hS5, hF5⟩
  go_wp2_with fail
  refine (next_st hS5 HL.out h1 h2 HN.out HW.out hnb (by (try dsimp only); omega)).mono ?_
  rintro e6 w6 ⟨rfl, hS6, hF6⟩
  go_wp2_with fail
  generalize ga : nx zs (s.at_ + 1) = a
  have ba : -499 ≤ a ∧ a ≤ 499 := by rw [← ga]; exact nx_bd _ _
  obtain ⟨ba1, ba2⟩ := ba
  have Ga := Lib.hid ga
  clear ga
  generalize gb : nx zs (s.at_ + 1 + 1) = b
  have bb : -499 ≤ b ∧ b ≤ 499 := by rw [← gb]; exact nx_bd _ _
  obtain ⟨bb1, bb2⟩ := bb
  have Gb := Lib.hid gb
  clear gb
  generalize gc : nx zs (s.at_ + 1 + 1 + 1) = c
  have bc : -499 ≤ c ∧ c ≤ 499 := by rw [← gc]; exact nx_bd _ _
  obtain ⟨bc1, bc2⟩ := bc
  have Gc := Lib.hid gc
  clear gc
  generalize gd : nx zs (s.at_ + 1 + 1 + 1 + 1) = d
  have bd : -499 ≤ d ∧ d ≤ 499 := by rw [← gd]; exact nx_bd _ _
  obtain ⟨bd1, bd2⟩ := bd
  have Gd := Lib.hid gd
  clear gd
  generalize ge : nx zs (s.at_ + 1 + 1 + 1 + 1 + 1) = e
  have be : -499 ≤ e ∧ e ≤ 499 := by rw [← ge]; exact nx_bd _ _
  obtain ⟨be1, be2⟩ := be
  have Ge := Lib.hid ge
  clear ge
  generalize gf : nx zs (s.at_ + 1 + 1 + 1 + 1 + 1 + 1) = f
  have bf : -499 ≤ f ∧ f ≤ 499 := by rw [← gf]; exact nx_bd _ _
  obtain ⟨bf1, bf2⟩ := bf
  have Gf := Lib.hid gf
  clear gf
  go_wp2_with fail
  refine (put_st (vs := [b, a, a, b, c, d, e, f]) (hS6.alloc _) (fun i hi => ?_) rfl (by simp) (blk_at _ _ (by simp)) (by have := hS6.big; (try simp only [World.size_setCell] at this ⊢); omega) (Nat.le_trans (HLT.out) (by simp))).mono ?_
  · match i, hi with
    | 0, _ => exact ⟨by simp only [List.getD_cons_zero]; omega, by simp only [List.getD_cons_zero]; omega⟩
    | 1, _ => exact ⟨by simp only [List.getD_cons_zero, List.getD_cons_succ]; omega, by simp only [List.getD_cons_zero, List.getD_cons_succ]; omega⟩
    | 2, _ => exact ⟨by simp only [List.getD_cons_zero, List.getD_cons_succ]; omega, by simp only [List.getD_cons_zero, List.getD_cons_succ]; omega⟩
    | 3, _ => exact ⟨by simp only [List.getD_cons_zero, List.getD_cons_succ]; omega, by simp only [List.getD_cons_zero, List.getD_cons_succ]; omega⟩
    | 4, _ => exact ⟨by simp only [List.getD_cons_zero, List.getD_cons_succ]; omega, by simp only [List.getD_cons_zero, List.getD_cons_succ]; omega⟩
    | 5, _ => exact ⟨by simp only [List.getD_cons_zero, List.getD_cons_succ]; omega, by simp only [List.getD_cons_zero, List.getD_cons_succ]; omega⟩
    | 6, _ => exact ⟨by simp only [List.getD_cons_zero, List.getD_cons_succ]; omega, by simp only [List.getD_cons_zero, List.getD_cons_succ]; omega⟩
    | 7, _ => exact ⟨by simp only [List.getD_cons_zero, List.getD_cons_succ]; omega, by simp only [List.getD_cons_zero, List.getD_cons_succ]; omega⟩
  rintro e7 w7 ⟨rfl, hS7, hF7⟩
  obtain ⟨vo7, hvo7⟩ := hS7.outCell
  go_wp2_with (at_builtin; refine wp_app_out (b := 25) (vo := vo7) (hS7.alloc _) (by rw [cell_past (by have := hS7.big; omega)]; exact hvo7) (Nat.le_trans (tl_put [b, a, a, b, c, d, e, f] (HLT.out)) (by simp)) (blk_at _ _ rfl) rfl _ _ rfl rfl rfl ?_; intro g8 n8 c8 w8 hS8 hF8 hc8 hf8)
  refine (line_st hS8 ⟨by (try dsimp only); omega, by (try dsimp only); omega⟩ ⟨by (try dsimp only); omega, by (try dsimp only); omega⟩ ⟨by omega, by omega⟩ ⟨by omega, by omega⟩ (by have := HLP.out; (try simp only []); omega)).mono ?_
  rintro e9 w9 ⟨rfl, hS9, hF9⟩
  go_wp2_with fail
  refine (curve_st hS9 ⟨by (try dsimp only); omega, by (try dsimp only); omega⟩ ⟨by (try dsimp only); omega, by (try dsimp only); omega⟩ ⟨by omega, by omega⟩ ⟨by omega, by omega⟩ ⟨by omega, by omega⟩ ⟨by omega, by omega⟩ ⟨by omega, by omega⟩ ⟨by omega, by omega⟩ (by have := HLP.out; (try simp only [List.length_append, List.length_cons, List.length_nil]); omega)).mono ?_
  rintro e10 w10 ⟨rfl, hS10, hF10⟩
  go_wp2_with fail
  refine HQ.out _ _ ⟨rfl, rfl, rfl, rfl, rfl, rfl, rfl, rfl, rfl, rfl, rfl, rfl, rfl, rfl, rfl⟩ ?_ ?_
  · obtain rfl := Ga.out; obtain rfl := Gb.out; obtain rfl := Gc.out; obtain rfl := Gd.out; obtain rfl := Ge.out; obtain rfl := Gf.out
    exact hS10
  · exact (hF1).trans ((hF2).trans ((hF3).trans ((hF4).trans ((hF5).trans ((hF6).trans ((SFrm.alloc _ _ _).trans ((hF7).trans ((SFrm.alloc _ _ _).trans ((hF8).trans ((hF9).trans (hF10)))))))))))

end Go.Proofs.YtoanpkfekhkaoaaGreatDoor
