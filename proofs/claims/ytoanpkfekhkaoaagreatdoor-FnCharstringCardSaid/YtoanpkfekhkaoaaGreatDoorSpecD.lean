/-
  The contract of the reference's closure put: it appends one operator with its numbers. Conditions: the cells that the closure holds.
-/
import Derived.Test.YtoanpkfekhkaoaaGreatDoorSpecC
import Derived.Deep.RegionLaw
import Derived.Deep.DrawnRows
namespace Go.Proofs.YtoanpkfekhkaoaaGreatDoor
open Go Go.RowKit

theorem enc_len (b : Bool) (v : Int) : 1 ≤ (enc b v).length ∧ (enc b v).length ≤ 3 := by
  unfold enc; split <;> (try split) <;> (try split) <;> simp

section
variable {B : Nat} {ways : Int} {w0 : World} {s : SS} {w : World}

/-- In a drawn region: an append of a row of bytes to 'out'; the store back comes later. -/
theorem step_app_out {nv : Value} {vo : Value} {ts : List Tok} {g m c : Nat} {l : List Int} {base' : Nat} (hS : SpecSt B nv ways w0 s w) (hvc : w.cell? ⟨B + 3, 0, none⟩ = some vo)
    (hlen : (encs (wideOf ways) s.toks).length ≤ 1000000) (hl : encs (wideOf ways) ts = encs (wideOf ways) s.toks ++ l) (hm : l.length = m) (hm1 : 1 ≤ m) (hm2 : m ≤ 1000)
    (hsrc : w.ownsRow base' 5 1 (.slice (some ⟨g, 0, none⟩) m c) m (u8s l))
    {ops : Array Oper} {o : Oper} {act : Act} {K : Act → World → Prop} {Q : Exit → Act → World → Prop} {E : Prop} (hg : o.guard = none) (x y : Operand)
    (hop : o.op = Op.call { callee := Callee.builtin Builtin.append, args := #[x, y], argTypes := #[22, 22] })
    (hx : act.eval x = vo) (hy : act.eval y = .slice (some ⟨g, 0, none⟩) m c)
    (hK : ∀ g' n' c' w1, SpecSt B nv ways w0 { s with toks := ts } (w1.setCell ⟨B + 3, 0, none⟩ (.slice (some ⟨g', 0, none⟩) n' c')) →
      SFrm B w (w1.setCell ⟨B + 3, 0, none⟩ (.slice (some ⟨g', 0, none⟩) n' c')) →
      w1.cell? ⟨B + 3, 0, none⟩ = some vo → w1.frozen? ⟨B + 3, 0, none⟩ = false → w1.cell? ⟨B + 1, 0, none⟩ = some (.int .i64 ways) → K (act.put o.dst (.slice (some ⟨g', 0, none⟩) n' c')) w1) :
    if Region.wanted o (yielded ops act.tmps) = true then Oper.wp Tryz.prog o act w K Q else E := by
  rw [if_pos (by simp [Region.wanted, hg])]
  obtain ⟨i0, hi, hz0, hz1, hz2⟩ := info_parts info5
  obtain ⟨v, hp1, hp2⟩ := hS.out
  have hbig := hS.big
  obtain rfl : v = vo := by rw [blk_cell hp1] at hvc; simpa using hvc
  refine wp_append_own w x y 22 hop B 5 i0 (.int .u8 0) 1 1 und22 hi hz0 hz1 hz2 rfl (by decide) v _ _ hx hp2 ⟨g, 0, none⟩ m c (u8s l) hy (by rw [u8s_length]; omega) (hsrc.cells (g := g) rfl) ?_ (by unfold maxLen; omega) (by omega) (by omega) ?_
  · intro u hu
    simp only [u8s, List.mem_map] at hu
    obtain ⟨_, _, rfl⟩ := hu
    rfl
  · intro v' w1 hown hgrow _
    have e1 : (encs (wideOf ways) ts).length = (encs (wideOf ways) s.toks).length + m := by rw [hl, List.length_append]; omega
    have e2 : u8s (encs (wideOf ways) ts) = u8s (encs (wideOf ways) s.toks) ++ u8s l := by rw [hl, u8s_append]
    have hown' : w1.ownsRow B 5 1 v' (encs (wideOf ways) ts).length (u8s (encs (wideOf ways) ts)) := by rw [e1, e2]; exact hown
    obtain ⟨h1, h2⟩ := hS.setOut hp1 hp2 hgrow hown'
    have h3 : w1.heap[B + 3]? = some (.cells #[v] 22 (0, 0)) := by
      rw [hgrow.block _ (by omega) fun e => own_ne hp2 (isTy.ne hp1 (by decide)) e.symm]; exact hp1
    have h4 : w1.heap[B + 1]? = some (.cells #[.int .i64 ways] 3 (0, 0)) := by
      rw [hgrow.block _ (by omega) fun e => own_ne hp2 (isTy.ne hS.way (by decide)) e.symm]; exact hS.way
    rcases hown.2 with ⟨_, hh⟩ | ⟨g', cap, cur, rfl, _⟩
    · omega
    · exact hK _ _ _ w1 h1 h2 (by rw [blk_cell h3]; rfl) (blk_free h3 0) (by rw [blk_cell h4]; rfl)

/-- SpecSt behind a call that only makes blocks. -/
theorem SpecSt.grown {nv : Value} (hS : SpecSt B nv ways w0 s w) {w' : World} (h : w.grownBy w' none) : SpecSt B nv ways w0 s w' :=
  hS.carry h.os h.tape h.output h.size fun k hk => h.block k hk (by simp)
theorem SFrm.grown {w' : World} (h : w.grownBy w' none) : SFrm B w w' := ⟨h.size, fun k hk _ _ _ => h.block k hk (by simp)⟩

attribute [local go_sem ↓] Go.wp_at_zero Go.wp_at_succ
set_option maxHeartbeats 1000000 in
theorem put_st {nv : Value} {vs : List Int} {bl n : Nat} (hS : SpecSt B nv ways w0 s w) (hv : ∀ i, i < n → -499 ≤ vs.getD i 0 ∧ vs.getD i 0 ≤ 499) (hn : vs.length = n) (hn8 : n ≤ 100)
    (hbl : w.heap[bl]? = some (.cells (vs.map (Value.int .i64)).toArray 3 (0, 0))) (hB : B + 10 ≤ bl) (hlen : (encs (wideOf ways) s.toks).length ≤ 100000) :
    Calls Tryz.prog 9 #[.slice (some ⟨bl, 0, none⟩) n n, .pointer (some ⟨B + 3, 0, none⟩), .pointer (some ⟨B + 1, 0, none⟩)] w
      (StepTo B nv ways w0 { s with toks := s.toks ++ vs.map Tok.num } w (.tuple #[])) := by
  go_enter Tryz.func9, Tryz.ntmps9
  go_wp2
  go_loopw [8] (fun i wr => ∃ k : Nat, k ≤ n ∧ i = .int .i64 k ∧ SpecSt B nv ways w0 { s with toks := s.toks ++ (vs.take k).map Tok.num } wr ∧ SFrm B w wr)
    (fun i _ => n - (intOf i).toNat)
  case atStart => exact ⟨0, Nat.zero_le _, rfl, by simpa using hS, SFrm.refl _ _⟩
  case round =>
    obtain ⟨k, hk, rfl, hSr, hFr⟩ := hrel
    by_cases hkn : k < n
    · have hb2 : wr.heap[bl]? = some (.cells (vs.map (Value.int .i64)).toArray 3 (0, 0)) := by
        rw [hFr.blk bl (blk_lt hbl) hB (isTy.ne hbl (by decide)) (isTy.ne hbl (by decide))]; exact hbl
      obtain ⟨x, hx⟩ : ∃ x, x = vs.getD k 0 := ⟨_, rfl⟩
      have hc : wr.cell? ⟨bl, k, none⟩ = some (.int .i64 x) := by
        rw [blk_cell hb2, hx]; simp [List.getD, show k < vs.length by omega]
      have hxb := hv k hkn
      rw [← hx] at hxb
      obtain ⟨hx0, hx1⟩ := hxb
      obtain ⟨vo, hp1, -⟩ := hSr.out
      have hbigr := hSr.big
      have hvo : wr.cell? ⟨B + 3, 0, none⟩ = some vo := by rw [blk_cell hp1]; rfl
      have hwy : wr.cell? ⟨B + 1, 0, none⟩ = some (.int .i64 ways) := by rw [blk_cell hSr.way]; rfl
      have htk : (vs.take (k + 1)).map Tok.num = (vs.take k).map Tok.num ++ [Tok.num x] := by
        rw [List.take_succ_eq_append_getElem (by omega), List.map_append, hx]; simp [List.getD, show k < vs.length by omega]
      have he : encs (wideOf ways) (s.toks ++ ((vs.take k).map Tok.num ++ [Tok.num x])) = encs (wideOf ways) ({ s with toks := s.toks ++ (vs.take k).map Tok.num } : SS).toks ++ enc (wideOf ways) x := by
        simp only [encs_append, encs_num, List.append_assoc]
      have HE := Lib.hid he
      have HTK := Lib.hid htk
      have HX := Lib.hid hx
      have HN := Lib.hid hn
      have hel := enc_len (wideOf ways) x
      have hlr : (encs (wideOf ways) ({ s with toks := s.toks ++ (vs.take k).map Tok.num } : SS).toks).length ≤ 1000000 := by
        have : ∀ l : List Int, (encs (wideOf ways) (l.map Tok.num)).length ≤ 3 * l.length := by
          intro l
          induction l with
          | nil => simp [encs]
          | cons a l ih => simp only [encs, List.map_cons, List.flatMap_cons, List.length_append, List.length_cons, encT] at ih ⊢; have := enc_len (wideOf ways) a; omega
        have h2 := this (vs.take k)
        simp only [encs_append, List.length_append, List.length_take] at h2 ⊢
        omega
      have HL := Lib.hid hlr
      have hsz := hFr.size
      clear he htk hx hn hb2 hlr hv hbl hp1
      go_wp2
      go_region_law (first
        | (go_simp; go_at_call 8; refine (numeral_any _ _ _ hx0 hx1).mono ?_; rintro e w1 ⟨g, c, rfl, hown, hgr⟩; have hvo1 := hgr.cell hvo (by simp); have hwy1 := hgr.cell hwy (by simp))
        | (refine step_app_out (ts := s.toks ++ ((vs.take k).map Tok.num ++ [Tok.num x])) (vo := vo) (g := g) (c := c) (l := enc (wideOf ways) x) (hSr.drew.grown hgr) hvo1 HL.out HE.out rfl hel.1 (by omega) hown (by rfl) _ _ (by rfl) (by rfl) (by rfl) ?_; intro g' n' c' w2 hS2 hF2 hc2 hf2 hw2))
      all_goals
        have hfr : SFrm B w (w2.setCell ⟨B + 3, 0, none⟩ (.slice (some ⟨g', 0, none⟩) n' c')) := hFr.trans ((SFrm.drewN B wr 1).trans ((SFrm.grown hgr).trans hF2))
        have hS3 : SpecSt B nv ways w0 { s with toks := s.toks ++ (vs.take (k + 1)).map Tok.num } (w2.setCell ⟨B + 3, 0, none⟩ (.slice (some ⟨g', 0, none⟩) n' c')) := by rw [HTK.out]; exact hS2
        clear hS2 hc2 hf2 hw2 hvo1 hwy1 hown hgr hF2
        go_wp2
        go_roundw
        case rel => exact ⟨k + 1, by omega, by go_num, hS3, hfr⟩
        case measure => simp [intOf]; omega
    · obtain rfl : k = n := by omega
      rw [List.take_of_length_le (by omega)] at hSr
      go_wp2
      go_end0
      exact ⟨rfl, hSr, hFr⟩
end
end Go.Proofs.YtoanpkfekhkaoaaGreatDoor
