/-
  The contract of the reference's function: the bytes it lays and the path it expects. Conditions: at most 40 operators, 1 to 1000 numbers, in memory as In4 says.
-/
import Derived.Test.YtoanpkfekhkaoaaGreatDoorSpecH
import Derived.Deep.RegionHeld3
import Derived.Deep.RegionLaw
import Derived.Deep.DrawnRows
namespace Go.Proofs.YtoanpkfekhkaoaaGreatDoor
open Go Go.RowKit

theorem spec_init (w : World) (nv : Value) (ways : Int) :
    SpecSt w.heap.size nv ways w (initS false) ((((((((((w.alloc (.cells #[nv] 23)).alloc (.cells #[.int .i64 ways] 3)).alloc (.cells #[] 5)).alloc
      (.cells #[.slice (some ⟨w.heap.size + 1 + 1, 0, none⟩) 0 0] 22)).alloc (.cells #[] 41)).alloc (.cells #[.slice (some ⟨w.heap.size + 1 + 1 + 1 + 1, 0, none⟩) 0 0] 24)).alloc
      (.cells #[.int .i64 0] 3)).alloc (.cells #[.int .i64 0, .int .i64 0] 35)).alloc (.cells #[.int .i64 0, .int .i64 0] 35)).alloc (.cells #[.bool false] 4)) := by
  refine ⟨?_, ?_, ?_, ?_, ⟨_, ?_, ?_, .inr ⟨w.heap.size + 2, 0, #[], rfl, by omega, ?_, by simp [initS, encs], by decide, rfl, by simp [initS, encs, u8s]⟩⟩,
    ⟨_, [], ?_, ⟨by simp [initS], .inr ⟨w.heap.size + 4, 0, #[], rfl, by omega, ?_, by simp [initS], by decide, rfl, by simp [initS]⟩⟩, rfl⟩, ?_, ?_, ?_, ?_⟩
  · exact (((((((((((Below.refl _ _).alloc (Nat.le_refl _) _).alloc (by simp only [World.size_alloc]; omega) _).alloc (by simp only [World.size_alloc]; omega) _).alloc (by simp only [World.size_alloc]; omega) _).alloc (by simp only [World.size_alloc]; omega) _).alloc (by simp only [World.size_alloc]; omega) _).alloc (by simp only [World.size_alloc]; omega) _).alloc (by simp only [World.size_alloc]; omega) _).alloc (by simp only [World.size_alloc]; omega) _).alloc (by simp only [World.size_alloc]; omega) _)
  · simp
  all_goals first
    | ((repeat rw [blk_alloc _ (by simp only [World.size_alloc]; omega)]); exact blk_at _ _ (by simp only [World.size_alloc]))
    | (simp [initS, encs, u8s]; done)
    | skip

/-- What spec.Charstring hands back: the bytes of the tokens, and the path. -/
def CharPost (w : World) (wide : Bool) (ts : List Tok) (path : List Seg) (e : Ending) (w' : World) : Prop :=
  ∃ g c vp xs, e = .returned (.tuple #[.slice (some ⟨g, 0, none⟩) (encs wide ts).length c, vp]) ∧
    w'.ownsRow w.heap.size 5 1 (.slice (some ⟨g, 0, none⟩) (encs wide ts).length c) (encs wide ts).length (u8s (encs wide ts)) ∧
    w'.ownsRow w.heap.size 41 2 vp path.length xs ∧ SegCells w' (w.heap.size + 10) path xs ∧ Below w.heap.size w w'

section
variable {B : Nat} {ways : Int} {w0 : World} {s : SS} {w : World}
/-- In a drawn region: the last append to 'out', which is not stored back. -/
theorem step_app_last {nv : Value} {vo vp : Value} {ts : List Tok} {a : Nat} {b : Int} (hS : SpecSt B nv ways w0 s w) (hvc : w.cell? ⟨B + 3, 0, none⟩ = some vo) (hvp : w.cell? ⟨B + 5, 0, none⟩ = some vp)
    (hlen : (encs (wideOf ways) s.toks).length ≤ 1000000) (hts : ts = s.toks ++ [.op b])
    (hab : w.heap[a]? = some (.cells #[.int .u8 b] 5 (0, 0)))
    {ops : Array Oper} {o : Oper} {act : Act} {K : Act → World → Prop} {Q : Exit → Act → World → Prop} {E : Prop} (hg : o.guard = none) (x y : Operand)
    (hop : o.op = Op.call { callee := Callee.builtin Builtin.append, args := #[x, y], argTypes := #[22, 22] })
    (hx : act.eval x = vo) (hy : act.eval y = .slice (some ⟨a, 0, none⟩) 1 1)
    (hK : ∀ g' c' xs w1, w1.ownsRow B 5 1 (.slice (some ⟨g', 0, none⟩) (encs (wideOf ways) ts).length c') (encs (wideOf ways) ts).length (u8s (encs (wideOf ways) ts)) →
      w1.ownsRow B 41 2 vp s.path.length xs → SegCells w1 (B + 10) s.path xs → Below B w0 w1 →
      w1.cell? ⟨B + 3, 0, none⟩ = some vo → w1.cell? ⟨B + 5, 0, none⟩ = some vp → K (act.put o.dst (.slice (some ⟨g', 0, none⟩) (encs (wideOf ways) ts).length c')) w1) :
    if Region.wanted o (yielded ops act.tmps) = true then Oper.wp Tryz.prog o act w K Q else E := by
  rw [if_pos (by simp [Region.wanted, hg])]
  obtain ⟨i0, hi, hz0, hz1, hz2⟩ := info_parts info5
  obtain ⟨v, hp1, hp2⟩ := hS.out
  obtain ⟨v2, xs, hq1, hq2, hq3⟩ := hS.pth
  have hbig := hS.big
  obtain rfl : v = vo := by rw [blk_cell hp1] at hvc; simpa using hvc
  obtain rfl : v2 = vp := by rw [blk_cell hq1] at hvp; simpa using hvp
  refine wp_append_own w x y 22 hop B 5 i0 (.int .u8 0) 1 1 und22 hi hz0 hz1 hz2 rfl (by decide) v _ _ hx hp2 ⟨a, 0, none⟩ 1 1 [.int .u8 b] hy rfl ?_ ?_ (by unfold maxLen; omega) (by omega) (by omega) ?_
  · intro j u hj
    rw [Addr.add_lit, Nat.zero_add, blk_cell hab]
    simpa using hj
  · intro u hu
    simp at hu
    subst hu; rfl
  · intro v' w1 hown hgrow _
    have e0 : encs (wideOf ways) ts = encs (wideOf ways) s.toks ++ [b] := by rw [hts, encs_append, encs_op]
    have hown' : w1.ownsRow B 5 1 v' (encs (wideOf ways) ts).length (u8s (encs (wideOf ways) ts)) := by
      rw [e0, u8s_append, List.length_append]; exact hown
    have ne1 : ∀ j, j < w.heap.size → ¬ isTy w j 5 → w1.heap[j]? = w.heap[j]? := fun j hj h5 => hgrow.block j hj fun e => own_ne hp2 h5 e.symm
    have h3 : w1.heap[B + 5]? = some (.cells #[v2] 24 (0, 0)) := by rw [ne1 _ (by omega) (isTy.ne hq1 (by decide))]; exact hq1
    have h4 : w1.heap[B + 3]? = some (.cells #[v] 22 (0, 0)) := by rw [ne1 _ (by omega) (isTy.ne hp1 (by decide))]; exact hp1
    have hlen0 : 0 < (encs (wideOf ways) ts).length := by rw [e0]; simp
    rcases hown'.2 with ⟨_, hh⟩ | ⟨g', cap, cur, rfl, _⟩
    · omega
    · refine hK g' cap xs w1 hown' (own_of hq2 fun k _ ⟨c, f, hk⟩ => ne1 k (blk_lt hk) (isTy.ne hk (by decide))) (SegCells.of (fun k _ ⟨c, f, hk⟩ => ne1 k (blk_lt hk) (isTy.ne hk (by decide))) hq3)
        (hS.below.trans ⟨hgrow.os, hgrow.tape, hgrow.output, hgrow.size, fun k hk => hgrow.block k (by omega) fun e => by have := (own_ty hp2 e.symm).2; omega⟩) (by rw [blk_cell h4]; rfl) (by rw [blk_cell h3]; rfl)
end

attribute [local go_sem ↓] Go.wp_at_zero Go.wp_at_succ
set_option maxRecDepth 100000 in
set_option maxHeartbeats 8000000 in
theorem char_f {ob oo ol oc nb no nl nc : Nat} {ov : Value} {ao : Option Addr} {ways : Int} {os zs : List Int} {w : World}
    (hI : In4 w.heap.size ob oo ol nb no nl os zs w) (hov0 : ov = .slice ao ol oc) (hov : 0 < ol → ov = .slice (some ⟨ob, oo, none⟩) ol oc) :
    Calls Tryz.prog 4 #[ov, .slice (some ⟨nb, no, none⟩) nl nc, .bool false, .int .i64 ways] w
      (CharPost w (wideOf ways) ((runS zs (twoOf ways) os (initS false)).toks ++ [.op 14]) (closeS (runS zs (twoOf ways) os (initS false))).path) := by
  have HO := Lib.hid hov
  have HI := Lib.hid hI
  have hBr := Lib.hid ((Bd.init (wideOf ways) false).run zs (twoOf ways) os)
  subst hov0
  clear hov hI
  go_enter Tryz.func4, Tryz.ntmps4
  go_wp2_with fail
  refine loop4 HI.out HO.out (spec_init w _ ways) (Bd.init _ _) ⟨rfl, rfl, rfl, rfl, rfl, rfl, rfl, rfl, rfl, rfl, rfl, rfl, rfl, rfl, rfl⟩ ?_
  intro t w1 hF hS
  rw [hF.lit]
  unfold fr4x
  go_wp2_with fail
  refine (closed_st hS (by have := hBr.out.lp; have := HI.out.hol; have := HI.out.hos; omega)).mono ?_
  rintro e1 w2 ⟨rfl, hS2, hF2⟩
  obtain ⟨vo, hvo⟩ := hS2.outCell
  obtain ⟨vp, hvp⟩ := hS2.pathCell
  have hbig := hS2.big
  have h3 : w.heap.size + 3 < w2.heap.size := by omega
  have h5 : w.heap.size + 5 < w2.heap.size := by omega
  go_wp2_with fail
  have HT0 : (encs (wideOf ways) (closeS (runS zs (twoOf ways) os (initS false))).toks).length ≤ 1000000 := by
    rw [closeS_toks]; have := hBr.out.lt; have := HI.out.hol; have := HI.out.hos; omega
  have HT := Lib.hid HT0
  clear HT0
  have HTS : Hid ((runS zs (twoOf ways) os (initS false)).toks ++ [Tok.op 14] = (closeS (runS zs (twoOf ways) os (initS false))).toks ++ [Tok.op 14]) := by rw [closeS_toks]; exact rfl
  go_region_held3 (fun w' => w'.cell? ⟨w.heap.size + 3, 0, none⟩ = some vo ∧ w'.cell? ⟨w.heap.size + 5, 0, none⟩ = some vp) (first | go_keep | exact ⟨hov3, hpv⟩)
    ((refine step_app_last (ts := (runS zs (twoOf ways) os (initS false)).toks ++ [Tok.op 14]) (vo := vo) (vp := vp) (a := w2.heap.size) (b := 14) (by first | exact (hS2.alloc _).drew | exact hS2.drew.alloc _) (by (first | rw [World.cell?_drew] | skip); rw [cell_past h3]; exact hvo) (by (first | rw [World.cell?_drew] | skip); rw [cell_past h5]; exact hvp) HT.out HTS.out (by exact blk_at _ _ rfl) (by rfl) _ _ (by rfl) (by rfl) (by rfl) ?_; intro g' c' xs w3 ho1 ho2 ho3 hb3 hov3 hpv))
  go_wp2_with fail
  go_ret2
  exact ⟨g', c', vp, xs, rfl, ho1, ho2, ho3, hb3⟩
set_option maxRecDepth 100000 in
set_option maxHeartbeats 8000000 in
theorem char_t {ob oo ol oc nb no nl nc : Nat} {ov : Value} {ao : Option Addr} {ways : Int} {os zs : List Int} {w : World}
    (hI : In4 w.heap.size ob oo ol nb no nl os zs w) (hov0 : ov = .slice ao ol oc) (hov : 0 < ol → ov = .slice (some ⟨ob, oo, none⟩) ol oc) :
    Calls Tryz.prog 4 #[ov, .slice (some ⟨nb, no, none⟩) nl nc, .bool true, .int .i64 ways] w
      (CharPost w (wideOf ways) ((runS zs (twoOf ways) os (initS true)).toks ++ [.op 14]) (closeS (runS zs (twoOf ways) os (initS true))).path) := by
  have HO := Lib.hid hov
  have HI := Lib.hid hI
  have hBr := Lib.hid ((Bd.init (wideOf ways) true).run zs (twoOf ways) os)
  subst hov0
  clear hov hI
  go_enter Tryz.func4, Tryz.ntmps4
  go_wp2_with fail
  have hS0 := spec_init w (.slice (some ⟨nb, no, none⟩) nl nc) ways
  generalize hWW : World.alloc _ (Obj.cells #[Value.bool false] 4) = W at hS0 ⊢
  clear hWW
  obtain ⟨vo, hvo⟩ := hS0.outCell
  have hwy : W.cell? ⟨w.heap.size + 1, 0, none⟩ = some (.int .i64 ways) := by rw [blk_cell hS0.way]; rfl
  have he : encs (wideOf ways) (initS true).toks = encs (wideOf ways) (initS false).toks ++ enc (wideOf ways) 77 := by simp [initS, encs_num]; rfl
  have HE := Lib.hid he
  have hel := enc_len (wideOf ways) 77
  have hl0 : (encs (wideOf ways) (initS false).toks).length ≤ 1000000 := by simp [initS, encs]
  have HL := Lib.hid hl0
  clear he hl0
  go_region_law (first
    | (go_simp; go_at_call 8; refine (numeral_any _ _ _ (by decide) (by decide)).mono ?_; rintro e w1 ⟨g, c, rfl, hown, hgr⟩; have hvo1 := hgr.cell hvo (by simp); have hwy1 := hgr.cell hwy (by simp))
    | (refine step_app_out (ts := (initS true).toks) (vo := vo) (g := g) (c := c) (l := enc (wideOf ways) 77) (hS0.drew.grown hgr) hvo1 HL.out HE.out rfl hel.1 (by omega) hown (by rfl) _ _ (by rfl) (by rfl) (by rfl) ?_; intro g' n' c' w2 hS2 hF2 hc2 hf2 hw2))
  all_goals
   have hSB : SpecSt w.heap.size (.slice (some ⟨nb, no, none⟩) nl nc) ways w (initS true) (w2.setCell ⟨w.heap.size + 3, 0, none⟩ (.slice (some ⟨g', 0, none⟩) n' c')) := hS2
   clear hS2 hF2 hc2 hf2 hw2 hown hgr hvo1 hwy1 hvo hwy hS0
   generalize w2.setCell ⟨w.heap.size + 3, 0, none⟩ (.slice (some ⟨g', 0, none⟩) n' c') = W2 at hSB ⊢
   go_wp2_with fail
   refine loop4 HI.out HO.out hSB (Bd.init _ _) ⟨rfl, rfl, rfl, rfl, rfl, rfl, rfl, rfl, rfl, rfl, rfl, rfl, rfl, rfl, rfl⟩ ?_
   intro t w1 hF hS
   rw [hF.lit]
   unfold fr4x
   go_wp2_with fail
   refine (closed_st hS (by have := hBr.out.lp; have := HI.out.hol; have := HI.out.hos; omega)).mono ?_
   rintro e1 w2 ⟨rfl, hS2, hF2⟩
   obtain ⟨vo, hvo⟩ := hS2.outCell
   obtain ⟨vp, hvp⟩ := hS2.pathCell
   have hbig := hS2.big
   have h3 : w.heap.size + 3 < w2.heap.size := by omega
   have h5 : w.heap.size + 5 < w2.heap.size := by omega
   go_wp2_with fail
   have HT0 : (encs (wideOf ways) (closeS (runS zs (twoOf ways) os (initS true))).toks).length ≤ 1000000 := by
     rw [closeS_toks]; have := hBr.out.lt; have := HI.out.hol; have := HI.out.hos; omega
   have HT := Lib.hid HT0
   clear HT0
   have HTS : Hid ((runS zs (twoOf ways) os (initS true)).toks ++ [Tok.op 14] = (closeS (runS zs (twoOf ways) os (initS true))).toks ++ [Tok.op 14]) := by rw [closeS_toks]; exact rfl
   go_region_held3 (fun w' => w'.cell? ⟨w.heap.size + 3, 0, none⟩ = some vo ∧ w'.cell? ⟨w.heap.size + 5, 0, none⟩ = some vp) (first | go_keep | exact ⟨hov3, hpv⟩)
     ((refine step_app_last (ts := (runS zs (twoOf ways) os (initS true)).toks ++ [Tok.op 14]) (vo := vo) (vp := vp) (a := w2.heap.size) (b := 14) (by first | exact (hS2.alloc _).drew | exact hS2.drew.alloc _) (by (first | rw [World.cell?_drew] | skip); rw [cell_past h3]; exact hvo) (by (first | rw [World.cell?_drew] | skip); rw [cell_past h5]; exact hvp) HT.out HTS.out (by exact blk_at _ _ rfl) (by rfl) _ _ (by rfl) (by rfl) (by rfl) ?_; intro g' c' xs w3 ho1 ho2 ho3 hb3 hov3 hpv))
   go_wp2_with fail
   go_ret2
   exact ⟨g', c', vp, xs, rfl, ho1, ho2, ho3, hb3⟩

end Go.Proofs.YtoanpkfekhkaoaaGreatDoor
