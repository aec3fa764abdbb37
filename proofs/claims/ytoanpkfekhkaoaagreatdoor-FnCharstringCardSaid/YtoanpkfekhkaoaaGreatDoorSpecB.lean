/-
  The contracts of the reference's closures next and line. Conditions: the cells that the closure holds, as each theorem names them.
-/
import Derived.Test.YtoanpkfekhkaoaaGreatDoorSpecA
namespace Go.Proofs.YtoanpkfekhkaoaaGreatDoor
open Go Go.RowKit

def nx (zs : List Int) (k : Nat) : Int := (zs.getD (k % zs.length) 0).tmod 500
theorem tmod500 (z : Int) : -499 ≤ z.tmod 500 ∧ z.tmod 500 ≤ 499 := by
  have h1 := Int.tmod_lt_of_pos z (b := 500) (by decide)
  have h2 := Int.tmod_lt_of_pos (-z) (b := 500) (by decide)
  rw [Int.neg_tmod] at h2
  omega
theorem nx_bd (zs : List Int) (k : Nat) : -499 ≤ nx zs k ∧ nx zs k ≤ 499 := tmod500 _

section
variable {B : Nat} {ways : Int} {w0 : World} {s : SS} {w : World}

/-- What a step leaves: the new state, and the other blocks as they were. -/
def StepTo (B : Nat) (nv : Value) (ways : Int) (w0 : World) (s' : SS) (w : World) (v : Value) (e : Ending) (w' : World) : Prop :=
  e = .returned v ∧ SpecSt B nv ways w0 s' w' ∧ SFrm B w w'

set_option maxHeartbeats 400000 in
theorem next_st {nb no len cap : Nat} {zs : List Int} (hS : SpecSt B (.slice (some ⟨nb, no, none⟩) len cap) ways w0 s w) (hl : zs.length = len) (h1 : 1 ≤ len) (h2 : len ≤ 1000)
    (hc : ∀ i, i < len → w0.cell? ⟨nb, no + i, none⟩ = some (.int .i16 (zs.getD i 0))) (hwf : ∀ i, -32768 ≤ zs.getD i 0 ∧ zs.getD i 0 ≤ 32767) (hnb : nb < B) (hat : s.at_ ≤ 1000000) :
    Calls Tryz.prog 7 #[.pointer (some ⟨B + 6, 0, none⟩), .pointer (some ⟨B, 0, none⟩)] w
      (StepTo B (.slice (some ⟨nb, no, none⟩) len cap) ways w0 { s with at_ := s.at_ + 1 } w (.int .i64 (nx zs (s.at_ + 1)))) := by
  have ha : w.cell? ⟨B + 6, 0, none⟩ = some (.int .i64 s.at_) := by rw [blk_cell hS.cat]; rfl
  have hf : w.frozen? ⟨B + 6, 0, none⟩ = false := blk_free hS.cat 0
  have hm : w.cell? ⟨B, 0, none⟩ = some (.slice (some ⟨nb, no, none⟩) len cap) := by rw [blk_cell hS.num]; rfl
  have hlt : (s.at_ + 1) % len < len := Nat.mod_lt _ (by omega)
  have hz : w.cell? ⟨nb, no + (s.at_ + 1) % len, none⟩ = some (.int .i16 (zs.getD ((s.at_ + 1) % len) 0)) := (hS.below.cell (p := ⟨nb, _, none⟩) hnb).trans (hc _ hlt)
  have hfin : nx zs (s.at_ + 1) = (zs.getD ((s.at_ + 1) % len) 0).tmod 500 := by unfold nx; rw [hl]
  have hw := hwf ((s.at_ + 1) % len)
  generalize zs.getD ((s.at_ + 1) % len) 0 = z at *
  have HF := Lib.hid hfin
  have HS : SpecSt B (.slice (some ⟨nb, no, none⟩) len cap) ways w0 { s with at_ := s.at_ + 1 } (w.setCell ⟨B + 6, 0, none⟩ (.int .i64 ((s.at_ : Int) + 1))) := hS.setAt (s.at_ + 1)
  have HL := Lib.hid hl
  clear hfin hc hwf hl
  obtain ⟨hw1, hw2⟩ := hw
  have e1 : ((len : Int) == 0) = false := by simp; omega
  have e2 : ¬ len = 0 := by omega
  have e4 : 0 ≤ ((s.at_ : Int) + 1) % (len : Int) := Int.emod_nonneg _ (by omega)
  have e5 : ((s.at_ : Int) + 1) % (len : Int) < len := Int.emod_lt_of_pos _ (by omega)
  have e6 : IntKind.i64.wrap z = z := IntWalk.i64_in _ (by omega)
  have e7 : ((s.at_ : Int) + 1).tmod (len : Int) = ((s.at_ : Int) + 1) % (len : Int) := Int.tmod_eq_emod_of_nonneg (by omega)
  have e8 := tmod500 z
  go_enter Tryz.func7, Tryz.ntmps7
  go_wp2
  go_quiet (fail)
  go_wp2
  go_ret
  exact ⟨by rw [HF.out]; rfl, HS.drewN _, (SFrm.set _ _ _ _ (by omega)).trans (SFrm.drewN _ _ _)⟩

/-- An append of one segment to the path, its cells in new blocks; the store back stands next. -/
theorem wp_app_path {nv : Value} {sg : Seg} {g a n : Nat} {vp : Value} (hS : SpecSt B nv ways w0 s w) (hvc : w.cell? ⟨B + 5, 0, none⟩ = some vp) (hlen : s.path.length ≤ 100000)
    (hgB : B + 10 ≤ g) (hgb : w.heap[g]? = some (.cells (ptCells sg.pts).toArray 35 (0, 0))) (hn : sg.pts.length = n)
    (hab : w.heap[a]? = some (.cells #[.int .i64 sg.op, .slice (some ⟨g, 0, none⟩) n n] 41 (0, 0)))
    {ops : Array Oper} {rest : List Oper} {o : Oper} {act : Act} {Q : Exit → Act → World → Prop} (hg : o.guard = none) (x y : Operand)
    (hop : o.op = Op.call { callee := Callee.builtin Builtin.append, args := #[x, y], argTypes := #[24, 24] })
    (hx : act.eval x = vp) (hy : act.eval y = .slice (some ⟨a, 0, none⟩) 1 1)
    (hK : ∀ g' n' c' w1, SpecSt B nv ways w0 { s with path := s.path ++ [sg] } (w1.setCell ⟨B + 5, 0, none⟩ (.slice (some ⟨g', 0, none⟩) n' c')) →
      SFrm B w (w1.setCell ⟨B + 5, 0, none⟩ (.slice (some ⟨g', 0, none⟩) n' c')) →
      w1.cell? ⟨B + 5, 0, none⟩ = some vp → w1.frozen? ⟨B + 5, 0, none⟩ = false → wpList Tryz.prog ops Q rest (act.put o.dst (.slice (some ⟨g', 0, none⟩) n' c')) w1) :
    wpList Tryz.prog ops Q (o :: rest) act w := by
  obtain ⟨i0, hi, hz0, hz1, hz2⟩ := info_parts info41
  obtain ⟨v, xs, hp1, hp2, hp3⟩ := hS.pth
  have hbig := hS.big
  obtain rfl : v = vp := by rw [blk_cell hp1] at hvc; simpa using hvc
  subst hn
  refine wpList_append_own _ hg x y 24 hop B 41 i0 (.agg #[.int .i64 0, .slice none 0 0]) 2 32 und24 hi hz0 hz1 hz2 rfl (by decide) v s.path.length xs hx hp2 ⟨a, 0, none⟩ 1 1
    [.int .i64 sg.op, .slice (some ⟨g, 0, none⟩) sg.pts.length sg.pts.length] hy rfl ?_ ?_ (by unfold maxLen; omega) (by omega) (by omega) ?_
  · intro j u hj
    rw [Addr.add_lit, Nat.zero_add, blk_cell hab]
    simpa using hj
  · intro u hu
    simp at hu
    rcases hu with rfl | rfl <;> rfl
  · intro v' w1 hown hgrow _
    obtain ⟨h1, h2⟩ := hS.setPath hp1 hp2 hp3 hgrow hgB hgb hown
    have h3 : w1.heap[B + 5]? = some (.cells #[v] 24 (0, 0)) := by
      rw [hgrow.block _ (by omega) fun e => own_ne hp2 (isTy.ne hp1 (by decide)) e.symm]; exact hp1
    rcases hown.2 with ⟨_, hh⟩ | ⟨g', cap, cur, rfl, _⟩
    · omega
    · exact hK _ _ _ w1 h1 h2 (by rw [blk_cell h3]; rfl) (blk_free h3 0)

set_option maxHeartbeats 400000 in
theorem line_st {nv : Value} {dx dy : Int} (hS : SpecSt B nv ways w0 s w) (hx : -1000000 ≤ s.here.1 ∧ s.here.1 ≤ 1000000) (hy : -1000000 ≤ s.here.2 ∧ s.here.2 ≤ 1000000)
    (hdx : -1000 ≤ dx ∧ dx ≤ 1000) (hdy : -1000 ≤ dy ∧ dy ≤ 1000) (hlen : s.path.length ≤ 100000) :
    Calls Tryz.prog 11 #[.int .i64 dx, .int .i64 dy, .pointer (some ⟨B + 7, 0, none⟩), .pointer (some ⟨B + 5, 0, none⟩)] w
      (StepTo B nv ways w0 { s with here := (s.here.1 + dx, s.here.2 + dy), path := s.path ++ [⟨1, [(s.here.1 + dx, s.here.2 + dy)]⟩] } w (.tuple #[])) := by
  obtain ⟨vp, xs, hp1, -, -⟩ := hS.pth
  have hbig := hS.big
  have ha : w.cell? ⟨B + 7, 0, none⟩ = some (.int .i64 s.here.1) := by rw [blk_cell hS.chere]; rfl
  have ha2 : w.cell? ⟨B + 7, 1, none⟩ = some (.int .i64 s.here.2) := by rw [blk_cell hS.chere]; rfl
  have hf : w.frozen? ⟨B + 7, 0, none⟩ = false := blk_free hS.chere 0
  have hf2 : w.frozen? ⟨B + 7, 1, none⟩ = false := blk_free hS.chere 1
  have hp : w.cell? ⟨B + 5, 0, none⟩ = some vp := by rw [blk_cell hp1]; rfl
  have h5 : B + 5 < w.heap.size := by omega
  have HS := hS.setHere (s.here.1 + dx) (s.here.2 + dy)
  have HF : SFrm B w ((w.setCell ⟨B + 7, 0, none⟩ (.int .i64 (s.here.1 + dx))).setCell ⟨B + 7, 1, none⟩ (.int .i64 (s.here.2 + dy))) := (SFrm.set _ _ _ _ (by omega)).trans (SFrm.set _ _ _ _ (by omega))
  generalize s.here.1 = x at *
  generalize s.here.2 = y at *
  clear hS hp1
  go_enter Tryz.func11, Tryz.ntmps11
  go_wp2_with (at_builtin; go_loud (refine wp_app_path (sg := ⟨1, [(x + dx, y + dy)]⟩) (g := w.heap.size) (a := w.heap.size + 1) (n := 1) (vp := vp) ((HS.alloc _).alloc _) (by go_simp) hlen hbig (by rw [blk_alloc _ (by simp)]; exact blk_at _ _ (by simp)) rfl (blk_at _ _ (by simp)) rfl _ _ rfl rfl rfl ?_))
  intro g' n' c' w1 hS' hF' hc1 hf1
  go_wp2
  go_end0
  exact ⟨rfl, hS', HF.trans ((SFrm.alloc _ _ _).trans ((SFrm.alloc _ _ _).trans hF'))⟩

end
end Go.Proofs.YtoanpkfekhkaoaaGreatDoor
