/-
  The contract of impl.Charstring. Conditions: the bytes lie in memory as the tokens encode them, and the plain run ends well.
-/
import Derived.Test.YtoanpkfekhkaoaaGreatDoorOutC
import Derived.Test.YtoanpkfekhkaoaaGreatDoorIntZ
import Derived.Deep.RegionLaw
namespace Go.Proofs.YtoanpkfekhkaoaaGreatDoor
open Go Go.RowKit
section
variable {g n c k : Nat} {w : World} {segs : List Seg}
theorem own_split {B : Nat} {sv : Value} (h : w.ownsRow B 112 7 sv k (segCs segs)) : ∃ ao c sb, sv = .slice ao k c ∧ (0 < k → ao = some ⟨sb, 0, none⟩) ∧ (0 < k → sb < w.heap.size) ∧ ∀ j v, (segCs segs)[j]? = some v → w.cell? ⟨sb, j, none⟩ = some v := by
  obtain ⟨hl, h⟩ := h
  rcases h with ⟨rfl, hk⟩ | ⟨sb, cap, cur, rfl, hb, hg, h1, h2, h3, ht⟩
  · subst hk
    refine ⟨none, 0, 0, rfl, fun h => absurd h (by decide), fun h => absurd h (by decide), fun j v hj => ?_⟩
    rw [Nat.zero_mul, List.length_eq_zero_iff] at hl
    rw [hl] at hj; simp at hj
  · refine ⟨_, cap, sb, rfl, fun _ => rfl, fun _ => blk_lt hg, fun j v hj => ?_⟩
    rw [blk_cell hg]
    have hi := (List.getElem?_eq_some_iff.1 hj).1
    rw [← ht, List.getElem?_take, if_pos (by omega)] at hj
    simpa using hj
attribute [local go_sem ↓] Go.wp_at_zero Go.wp_at_succ
set_option maxRecDepth 100000 in
set_option maxHeartbeats 1000000 in
theorem imp_c {wd : Bool} {toks : List Tok} {fin : PS} (hby : ByteBlk g (encs wd toks) w) (hn : (encs wd toks).length = n) (h0 : 0 < n) (h1 : n ≤ 1000000) (hR : Runs wd toks initP fin) (hfin : fin.ended = true) (hk : fin.segs.length ≤ 100000)
    (hok : ∀ sg ∈ fin.segs, SegOk sg) :
    Calls Tryz.prog 5 #[.slice (some ⟨g, 0, none⟩) n c] w (fun e w' => ∃ B v ys, w.heap.size ≤ B ∧ e = .returned (.tuple #[v, .bool true, .bool true]) ∧ w'.ownsRow B 54 2 v fin.segs.length ys ∧ GSegs w' B fin.segs ys ∧ Below w.heap.size w w') := by
  have HC := Lib.hid (clone_c (c := c) hby hn h0 h1)
  have HR := Lib.hid hR
  have HN := Lib.hid hn
  have HF := Lib.hid hfin
  have HK := Lib.hid hk
  have HO := Lib.hid hok
  clear hby hn hR hfin hk hok
  go_enter Tryz.func5, Tryz.ntmps5
  go_wp2_with fail
  refine HC.out.mono ?_
  rintro e w1 ⟨g1, c1, rfl, k1, k2, k3, k4, k5, hb1⟩
  have HZ := Lib.hid (zz_c k2 HN.out.symm k3 k4 k5 HR.out)
  clear k5 k3 k4
  go_wp2_with fail
  refine HZ.out.mono ?_
  rintro e w2 ⟨sv, rfl, hown, hb2⟩
  rw [HF.out]
  obtain ⟨ao, c2, sb, rfl, q1, q2, q3⟩ := own_split hown
  have HS := fun (W : World) (hW : ∀ k, k < w2.heap.size → W.heap[k]? = w2.heap[k]?) (hz : w2.heap.size ≤ W.heap.size) => segsOf_c (sb := sb) (ao := ao) (c := c2) (w0 := W) rfl HK.out q1 (fun h => Nat.lt_of_lt_of_le (q2 h) hz) (fun j v hj => by
    have h := q3 j v hj
    by_cases hp : sb < w2.heap.size
    · rw [World.cell?_of_block (w := w2) (a := ⟨sb, j, none⟩) (hW sb hp)]; exact h
    · exact absurd (block_lt_of_cell h) hp) HO.out
  have HS := Lib.hid HS
  have hbel := hb1.trans (hb2.mono hb1.size)
  clear hown q1 q2 q3 hb1 hb2
  go_wp2_with fail
  go_region_law (go_simp; go_at_call 15; refine (HS.out w2.drew (fun _ _ => rfl) (Nat.le_refl _)).mono ?_; rintro e w3 ⟨v, ys, rfl, ho3, hg3, hb3⟩)
  all_goals
    go_wp2_with fail
    go_ret3
    exact ⟨_, v, ys, hbel.size, rfl, ho3, hg3, hbel.trans ((Below.refl w.heap.size w2).drew.trans (hb3.mono hbel.size))⟩
end
end Go.Proofs.YtoanpkfekhkaoaaGreatDoor
