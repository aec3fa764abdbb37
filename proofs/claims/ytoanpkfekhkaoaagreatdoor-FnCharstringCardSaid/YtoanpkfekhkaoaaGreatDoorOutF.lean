/-
  The contract of pathIs: it answers true where both paths read the same. Conditions: both paths lie in memory.
-/
import Derived.Test.YtoanpkfekhkaoaaGreatDoorOutE
namespace Go.Proofs.YtoanpkfekhkaoaaGreatDoor
open Go Go.RowKit
section
variable {k : Nat} {w w0 : World} {path : List Seg} {Q : Exit → Act → World → Prop}
theorem own_split' {B e sz : Nat} {v : Value} {xs : List Value} (h : w.ownsRow B e sz v k xs) : ∃ ao c sb, v = .slice ao k c ∧ (0 < k → ao = some ⟨sb, 0, none⟩) ∧ (0 < k → sb < w.heap.size) ∧ ∀ j u, xs[j]? = some u → w.cell? ⟨sb, j, none⟩ = some u := by
  obtain ⟨hl, h⟩ := h
  rcases h with ⟨rfl, hk⟩ | ⟨sb, cap, cur, rfl, hb, hg, h1, h2, h3, ht⟩
  · subst hk
    refine ⟨none, 0, 0, rfl, fun h => absurd h (by decide), fun h => absurd h (by decide), fun j v hj => ?_⟩
    rw [Nat.zero_mul, List.length_eq_zero_iff] at hl
    rw [hl] at hj; simp at hj
  · refine ⟨_, cap, sb, rfl, fun _ => rfl, fun _ => blk_lt hg, fun j v hj => ?_⟩
    rw [blk_cell hg]
    have hi := (List.getElem?_eq_some_iff.1 hj).1
    rw [← ht, List.getElem?_take, if_pos (by omega)] at hj
    simpa using hj
theorem GSegs.get {lo : Nat} : ∀ {l : List Seg} {xs : List Value} {i : Nat} {sg : Seg}, GSegs w lo l xs → l[i]? = some sg → ∃ g c, xs[i * 2]? = some (.int .i64 sg.op) ∧ xs[i * 2 + 1]? = some (.slice (some ⟨g, 0, none⟩) sg.pts.length c) ∧ PtBlk g sg.pts w
  | a :: l, xs, 0, sg, h, hi => by
    simp only [List.getElem?_cons_zero, Option.some.injEq] at hi
    subst hi
    obtain ⟨g, c, tl, rfl, _, h2, _⟩ := h
    exact ⟨g, c, rfl, rfl, h2⟩
  | a :: l, xs, i + 1, sg, h, hi => by
    obtain ⟨g, c, tl, rfl, _, _, h3⟩ := h
    obtain ⟨g', c', e1, e2, e3⟩ := GSegs.get (i := i) h3 (by simpa using hi)
    exact ⟨g', c', by rw [show (i + 1) * 2 = i * 2 + 1 + 1 by omega]; simpa using e1, by rw [show (i + 1) * 2 + 1 = i * 2 + 1 + 1 + 1 by omega]; simpa using e2, e3⟩
theorem SegCells.get {lo : Nat} : ∀ {l : List Seg} {xs : List Value} {i : Nat} {sg : Seg}, SegCells w lo l xs → l[i]? = some sg → ∃ g, xs[i * 2]? = some (.int .i64 sg.op) ∧ xs[i * 2 + 1]? = some (.slice (some ⟨g, 0, none⟩) sg.pts.length sg.pts.length) ∧ w.heap[g]? = some (.cells (ptCells sg.pts).toArray 35 (0, 0))
  | a :: l, xs, 0, sg, h, hi => by
    simp only [List.getElem?_cons_zero, Option.some.injEq] at hi
    subst hi
    obtain ⟨g, tl, rfl, _, h2, _⟩ := h
    exact ⟨g, rfl, rfl, h2⟩
  | a :: l, xs, i + 1, sg, h, hi => by
    obtain ⟨g, tl, rfl, _, _, h3⟩ := h
    obtain ⟨g', e1, e2, e3⟩ := SegCells.get (i := i) h3 (by simpa using hi)
    exact ⟨g', by rw [show (i + 1) * 2 = i * 2 + 1 + 1 by omega]; simpa using e1, by rw [show (i + 1) * 2 + 1 = i * 2 + 1 + 1 + 1 by omega]; simpa using e2, e3⟩

def WP6 (k : Nat) (v vp : Value) (w0 : World) (a : Act) (w : World) : Prop := ∃ t i, a = ⟨t, []⟩ ∧ Fx6 v vp k i t ∧ i ≤ k ∧ Below w0.heap.size w0 w
def mu6 (k : Nat) (a : Act) (_ : World) : Nat := k - (intOf (a.tmps.getD 15 undef)).toNat
theorem mu6_of {v vp : Value} {i : Nat} {t : Array Value} (h : Fx6 v vp k i t) : mu6 k ⟨t, []⟩ w = k - i := by
  have : t.getD 15 undef = .int .i64 i := by simp [Array.getD_eq_getD_getElem?, h.s15]
  simp [mu6, this, intOf]

theorem round6 {ao ap : Option Addr} {cv cp vb pb B B3 : Nat} {ys xs : List Value} (hk : k ≤ 100000) (hl : path.length = k) (h1 : 0 < k → ao = some ⟨vb, 0, none⟩) (h2 : 0 < k → vb < w0.heap.size) (h3 : ∀ j u, ys[j]? = some u → w0.cell? ⟨vb, j, none⟩ = some u)
    (h4 : 0 < k → ap = some ⟨pb, 0, none⟩) (h5 : 0 < k → pb < w0.heap.size) (h6 : ∀ j u, xs[j]? = some u → w0.cell? ⟨pb, j, none⟩ = some u) (hG : GSegs w0 B path ys) (hS : SegCells w0 B3 path xs) (hok : ∀ sg ∈ path, sg.pts.length = 1 ∨ sg.pts.length = 3)
    (hQ : ∀ t w, Fx6 (.slice ao k cv) (.slice ap k cp) k k t → Below w0.heap.size w0 w → Q (.exit 0) ⟨t, []⟩ w) (a : Act) (w : World) (hW : WP6 k (.slice ao k cv) (.slice ap k cp) w0 a w) :
    Code.wp Tryz.prog body6 (Exit.then (fun a' w' => WP6 k (.slice ao k cv) (.slice ap k cp) w0 a' w' ∧ mu6 k a' w' < mu6 k a w) Q) a w := by
  obtain ⟨t, i, rfl, hF, hik, hbl⟩ := hW
  rw [mu6_of hF]
  by_cases hi : i < k
  · obtain rfl := h1 (by omega)
    obtain rfl := h4 (by omega)
    have l1 := h2 (by omega)
    have l2 := h5 (by omega)
    obtain ⟨sg, hsg⟩ : ∃ sg, path[i]? = some sg := ⟨path[i], List.getElem?_eq_getElem (by omega)⟩
    obtain ⟨g1, c1, e1, e2, cur, m, e3, e4⟩ := hG.get hsg
    obtain ⟨g2, f1, f2, f3⟩ := hS.get hsg
    have l3 := blk_lt e3
    have l4 := blk_lt f3
    have kp : ∀ b o, b < w0.heap.size → w.cell? ⟨b, o, none⟩ = w0.cell? ⟨b, o, none⟩ := fun b o hb => hbl.cell (p := ⟨b, o, none⟩) hb
    have P : ∀ j u, (ptCells sg.pts)[j]? = some u → w.cell? ⟨g1, j, none⟩ = some u := fun j u hj => by rw [kp _ _ l3, blk_cell e3]; exact e4 j u hj
    have R : ∀ j u, (ptCells sg.pts)[j]? = some u → w.cell? ⟨g2, j, none⟩ = some u := fun j u hj => by rw [kp _ _ l4, blk_cell f3]; simpa using hj
    have A0 := (kp _ (i * 2) l1).trans (h3 _ _ e1)
    have A1 := (kp _ (i * 2 + 1) l1).trans (h3 _ _ e2)
    have B0 := (kp _ (i * 2) l2).trans (h6 _ _ f1)
    have B1 := (kp _ (i * 2 + 1) l2).trans (h6 _ _ f2)
    have hz := hbl.size
    have fin : ∀ t w', Fx6 (.slice (some ⟨vb, 0, none⟩) k cv) (.slice (some ⟨pb, 0, none⟩) k cp) k (i + 1) t → Below w.heap.size w w' →
        Exit.then (fun a' w' => WP6 k (.slice (some ⟨vb, 0, none⟩) k cv) (.slice (some ⟨pb, 0, none⟩) k cp) w0 a' w' ∧ mu6 k a' w' < k - i) Q .normal ⟨t, []⟩ w' := fun t' w' hF' hb' =>
      ⟨⟨t', i + 1, rfl, hF', hi, hbl.trans (hb'.mono hz)⟩, by rw [mu6_of hF']; omega⟩
    have hc := hok sg (List.mem_of_getElem? hsg)
    rw [hF.lit]
    clear hF e1 e2 e3 e4 f1 f2 f3
    obtain ⟨op, pts⟩ := sg
    simp only at P R A0 A1 B0 B1 hc
    rcases hc with hp | hp
    · obtain ⟨⟨x, y⟩, rfl⟩ := List.length_eq_one_iff.1 hp
      exact seg6_1 hi hk A0 A1 B0 B1 (P 0 _ rfl) (R 0 _ rfl) (P 1 _ rfl) (R 1 _ rfl) (by omega) (by omega) (by omega) (by omega) fin
    · obtain ⟨⟨x, y⟩, ⟨x1, y1⟩, ⟨x2, y2⟩, rfl⟩ : ∃ p q r, pts = [p, q, r] := by match pts, hp with | [p, q, r], _ => exact ⟨p, q, r, rfl⟩
      exact seg6_3 hi hk A0 A1 B0 B1 (P 0 _ rfl) (R 0 _ rfl) (P 1 _ rfl) (R 1 _ rfl) (P 2 _ rfl) (R 2 _ rfl) (P 3 _ rfl) (R 3 _ rfl) (P 4 _ rfl) (R 4 _ rfl) (P 5 _ rfl) (R 5 _ rfl) (by omega) (by omega) (by omega) (by omega) fin
  · obtain rfl : i = k := by omega
    rw [hF.lit]
    exact end6 fun t' hF' => hQ _ _ hF' hbl

attribute [local go_sem ↓] Go.wp_at_zero Go.wp_at_succ
set_option maxRecDepth 100000 in
set_option maxHeartbeats 1000000 in
theorem pathIs_c {v vp : Value} {B B1 B2 B3 : Nat} {ys xs : List Value} (hv : w0.ownsRow B 54 2 v k ys) (hG : GSegs w0 B1 path ys) (hp : w0.ownsRow B2 41 2 vp k xs) (hS : SegCells w0 B3 path xs) (hl : path.length = k) (hk : k ≤ 100000)
    (hok : ∀ sg ∈ path, sg.pts.length = 1 ∨ sg.pts.length = 3) : Calls Tryz.prog 6 #[v, vp] w0 (fun e w' => e = .returned (.bool true) ∧ Below w0.heap.size w0 w') := by
  obtain ⟨ao, cv, vb, rfl, h1, h2, h3⟩ := own_split' hv
  obtain ⟨ap, cp, pb, rfl, h4, h5, h6⟩ := own_split' hp
  have HR := Lib.hid (fun (Q : Exit → Act → World → Prop) hQ => round6 (cv := cv) (cp := cp) (Q := Q) hk hl h1 h2 h3 h4 h5 h6 hG hS hok hQ)
  clear hv hG hp hS hl hok h1 h2 h3 h4 h5 h6
  go_enter Tryz.func6, Tryz.ntmps6
  go_wp2_with fail
  refine wp_loop (WP6 k (.slice ao k cv) (.slice ap k cp) w0) (mu6 k) ?_ (HR.out _ ?_)
  · exact ⟨_, 0, rfl, ⟨rfl, rfl, rfl, rfl, rfl, rfl⟩, Nat.zero_le _, Below.refl _ _⟩
  · intro t w1 hF hbl
    rw [hF.lit]
    unfold fr6
    go_wp2_with fail
    go_ret
    exact ⟨rfl, hbl⟩
end
end Go.Proofs.YtoanpkfekhkaoaaGreatDoor
