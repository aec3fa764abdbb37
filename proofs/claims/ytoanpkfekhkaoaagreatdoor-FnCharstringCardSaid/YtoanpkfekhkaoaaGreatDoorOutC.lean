/-
  The contract of segmentsOf, whole. Conditions: the segments lie in memory.
-/
import Derived.Test.YtoanpkfekhkaoaaGreatDoorOutB
import Derived.Test.YtoanpkfekhkaoaaGreatDoorSpecH
namespace Go.Proofs.YtoanpkfekhkaoaaGreatDoor
open Go Go.RowKit

def SegOk (sg : Seg) : Prop := (∀ p ∈ sg.pts, (-2000000 ≤ p.1 ∧ p.1 ≤ 2000000) ∧ (-2000000 ≤ p.2 ∧ p.2 ≤ 2000000)) ∧ ((sg.op = 0 ∨ sg.op = 1) ∧ sg.pts.length = 1 ∨ sg.op = 3 ∧ sg.pts.length = 3)
def GSegs (w : World) (lo : Nat) : List Seg → List Value → Prop
  | [], xs => xs = []
  | s :: r, xs => ∃ g c tl, xs = .int .i64 s.op :: .slice (some ⟨g, 0, none⟩) s.pts.length c :: tl ∧ lo ≤ g ∧ PtBlk g s.pts w ∧ GSegs w lo r tl
theorem GSegs.snoc {w : World} {lo g c : Nat} {s : Seg} (hg : lo ≤ g) (hp : PtBlk g s.pts w) : ∀ {l : List Seg} {xs : List Value}, GSegs w lo l xs → GSegs w lo (l ++ [s]) (xs ++ [.int .i64 s.op, .slice (some ⟨g, 0, none⟩) s.pts.length c])
  | [], xs, h => by subst h; exact ⟨g, c, [], rfl, hg, hp, rfl⟩
  | a :: l, xs, h => by
    obtain ⟨g1, c1, tl, rfl, h1, h2, h3⟩ := h
    exact ⟨g1, c1, _, rfl, h1, h2, GSegs.snoc hg hp h3⟩
theorem GSegs.of {w w' : World} {lo : Nat} (hs : ∀ k, lo ≤ k → isTy w k 55 → w'.heap[k]? = w.heap[k]?) : ∀ {l : List Seg} {xs : List Value}, GSegs w lo l xs → GSegs w' lo l xs
  | [], _, h => h
  | a :: l, _, h => by
    obtain ⟨g1, c1, tl, rfl, h1, ⟨cur, m, h2, h2'⟩, h3⟩ := h
    exact ⟨g1, c1, tl, rfl, h1, ⟨cur, m, (hs g1 h1 ⟨cur, m, h2⟩).trans h2, h2'⟩, GSegs.of hs h3⟩

def slot15 (sv vo : Value) (k i : Nat) (u : Nat → Value) : Nat → Value
  | 3 => vo
  | 8 => sv
  | 9 => .int .i64 k
  | 10 => .int .i64 i
  | n => u n
set_option maxRecDepth 100000 in
theorem fr15_eq (sv vo : Value) (k i : Nat) (u : Nat → Value) : fr15 sv vo k i u = ((List.range 43).map (slot15 sv vo k i u)).toArray := by
  kernel_rfl
theorem Fx15.lit {sv vo : Value} {k i : Nat} {t : Array Value} (h : Fx15 sv vo k i t) : t = fr15 sv vo k i fun j => t.getD j undef := by
  rw [fr15_eq]
  apply Array.ext_getElem?
  intro j
  by_cases hj : j < 43
  · have hg : t[j]? = some (t.getD j undef) := by simp [Array.getD, h.size, hj]
    have e : (((List.range 43).map (slot15 sv vo k i fun j => t.getD j undef)).toArray)[j]? = some (slot15 sv vo k i (fun j => t.getD j undef) j) := by simp [hj]
    rw [e]
    unfold slot15
    split
    · exact h.s3
    · exact h.s8
    · exact h.s9
    · exact h.s10
    · exact hg
  · rw [Array.getElem?_eq_none (by have := h.size; omega), Array.getElem?_eq_none (by simp; omega)]

section
variable {sb c k : Nat} {ao : Option Addr} {segs : List Seg} {w0 : World} {Q : Exit → Act → World → Prop}
theorem segCs_get : ∀ (l : List Seg) (i m : Nat) (sg : Seg), l[i]? = some sg → m < 7 → (segCs l)[i * 7 + m]? = (segC sg)[m]?
  | a :: l, 0, m, sg, h, hm => by
    simp only [List.getElem?_cons_zero, Option.some.injEq] at h
    subst h
    simp only [segCs, List.flatMap_cons, Nat.zero_mul, Nat.zero_add]
    rw [List.getElem?_append_left (by simp [segC]; omega)]
  | a :: l, i + 1, m, sg, h, hm => by
    simp only [List.getElem?_cons_succ] at h
    have ih := segCs_get l i m sg h hm
    simp only [segCs, List.flatMap_cons] at ih ⊢
    rw [List.getElem?_append_right (by simp [segC]; omega), show (i + 1) * 7 + m - (segC a).length = i * 7 + m by simp [segC]; omega]
    exact ih

def W15 (k c : Nat) (ao : Option Addr) (segs : List Seg) (w0 : World) (a : Act) (w : World) : Prop :=
  ∃ t i vo ys, a = ⟨t, []⟩ ∧ Fx15 (.slice ao k c) vo k i t ∧ i ≤ k ∧ w.ownsRow w0.heap.size 54 2 vo i ys ∧ GSegs w w0.heap.size (segs.take i) ys ∧ Below w0.heap.size w0 w
def mu15 (k : Nat) (a : Act) (_ : World) : Nat := k - (intOf (a.tmps.getD 10 undef)).toNat
theorem mu15_of {sv vo : Value} {i : Nat} {t : Array Value} {w : World} (h : Fx15 sv vo k i t) : mu15 k ⟨t, []⟩ w = k - i := by
  have : t.getD 10 undef = .int .i64 i := by simp [Array.getD_eq_getD_getElem?, h.s10]
  simp [mu15, this, intOf]

attribute [local go_sem ↓] Go.wp_at_zero Go.wp_at_succ
set_option maxRecDepth 100000 in
theorem end15 {vo : Value} {w : World} {u : Nat → Value} (hQ : ∀ t, Fx15 (.slice ao k c) vo k k t → Q (.exit 0) ⟨t, []⟩ w) : Code.wp Tryz.prog body15 Q ⟨fr15 (.slice ao k c) vo k k u, []⟩ w := by
  have HQ := Lib.hid hQ
  clear hQ
  conv => arg 2; whnf
  unfold fr15
  go_wp2_with fail
  exact HQ.out _ ⟨rfl, rfl, rfl, rfl, rfl⟩

theorem round15 (hl : segs.length = k) (hk : k ≤ 100000) (hao : 0 < k → ao = some ⟨sb, 0, none⟩) (hsb : 0 < k → sb < w0.heap.size) (hc : ∀ j v, (segCs segs)[j]? = some v → w0.cell? ⟨sb, j, none⟩ = some v) (hok : ∀ sg ∈ segs, SegOk sg)
    (hQp : ∀ c (a : Act) d v w, Q (.panic c) (a.put d v) w → Q (.panic c) a w)
    (hQ : ∀ t vo ys w, Fx15 (.slice ao k c) vo k k t → w.ownsRow w0.heap.size 54 2 vo k ys → GSegs w w0.heap.size segs ys → Below w0.heap.size w0 w → Q (.exit 0) ⟨t, []⟩ w)
    (a : Act) (w : World) (hW : W15 k c ao segs w0 a w) :
    Code.wp Tryz.prog body15 (Exit.then (fun a' w' => W15 k c ao segs w0 a' w' ∧ mu15 k a' w' < mu15 k a w) Q) a w := by
  obtain ⟨t, i, vo, ys, rfl, hF, hik, hown, hG, hbl⟩ := hW
  rw [mu15_of hF]
  by_cases hi : i < k
  · obtain rfl := hao (by omega)
    have hsb := hsb (by omega)
    obtain ⟨sg, hsg⟩ : ∃ sg, segs[i]? = some sg := ⟨segs[i], List.getElem?_eq_getElem (by omega)⟩
    have hcell : ∀ m v, m < 7 → (segC sg)[m]? = some v → w.cell? ⟨sb, i * 7 + m, none⟩ = some v := fun m v hm hv =>
      (hbl.cell (p := ⟨sb, i * 7 + m, none⟩) hsb).trans (hc _ _ (by rw [segCs_get segs i m sg hsg hm]; exact hv))
    have htk : segs.take (i + 1) = segs.take i ++ [sg] := by
      have hlt := (List.getElem?_eq_some_iff.1 hsg)
      rw [List.take_succ_eq_append_getElem hlt.1, hlt.2]
    obtain ⟨hbd, hcase⟩ := hok sg (List.mem_of_getElem? hsg)
    have hlt : sb < w.heap.size := Nat.lt_of_lt_of_le hsb hbl.size
    have fin : ∀ t w' vo' g c', Fx15 (.slice (some ⟨sb, 0, none⟩) k c) vo' k (i + 1) t → w'.ownsRow w0.heap.size 54 2 vo' (i + 1) (ys ++ [.int .i64 sg.op, .slice (some ⟨g, 0, none⟩) sg.pts.length c']) → w.heap.size ≤ g → PtBlk g sg.pts w' → w.heap.size ≤ w'.heap.size → w'.os = w.os → w'.tape = w.tape →
        w'.output = w.output → (∀ k, k < w.heap.size → some k ≠ vo.ownBlock → w'.heap[k]? = w.heap[k]?) →
        Exit.then (fun a' w' => W15 k c (some ⟨sb, 0, none⟩) segs w0 a' w' ∧ mu15 k a' w' < k - i) Q .normal ⟨t, []⟩ w' := by
      intro t' w' vo' g c' hF' hown' hg hp hs h1 h2 h3 hkeep
      have hbl' : Below w0.heap.size w0 w' := hbl.trans ⟨h1, h2, h3, hs, fun j hj => hkeep j (Nat.lt_of_lt_of_le hj hbl.size) (fun e => by have := own_ty hown e.symm; omega)⟩
      refine ⟨⟨t', i + 1, vo', _, rfl, hF', hi, hown', ?_, hbl'⟩, ?_⟩
      · rw [htk]
        exact GSegs.snoc (Nat.le_trans hbl.size hg) hp (GSegs.of (fun j _ hj => hkeep j (by obtain ⟨_, _, hx⟩ := hj; exact blk_lt hx) (fun e => own_ne hown (by obtain ⟨_, _, hx⟩ := hj; exact isTy.ne hx (by decide)) e.symm)) hG)
      · rw [mu15_of hF']; omega
    rw [hF.lit]
    clear hF htk hG
    obtain ⟨op, pts⟩ := sg
    simp only at hbd hcase fin
    have hQp' : ∀ c' (a : Act) d v w, Exit.then (fun a' w' => W15 k c (some ⟨sb, 0, none⟩) segs w0 a' w' ∧ mu15 k a' w' < k - i) Q (.panic c') (a.put d v) w → Exit.then (fun a' w' => W15 k c (some ⟨sb, 0, none⟩) segs w0 a' w' ∧ mu15 k a' w' < k - i) Q (.panic c') a w := fun _ _ _ _ _ h => hQp _ _ _ _ _ h
    rcases hcase with ⟨rfl | rfl, hp⟩ | ⟨rfl, hp⟩
    · obtain ⟨⟨x, y⟩, rfl⟩ := List.length_eq_one_iff.1 hp
      exact seg_r0 hQp' hi hk hlt (hbd (x, y) (by simp)).1 (hbd (x, y) (by simp)).2 (hcell 0 _ (by decide) rfl) (hcell 1 _ (by decide) rfl) (hcell 2 _ (by decide) rfl) (hcell 3 _ (by decide) rfl) (hcell 4 _ (by decide) rfl) (hcell 5 _ (by decide) rfl) (hcell 6 _ (by decide) rfl) hbl.size hown fin
    · obtain ⟨⟨x, y⟩, rfl⟩ := List.length_eq_one_iff.1 hp
      exact seg_r1 hQp' hi hk hlt (hbd (x, y) (by simp)).1 (hbd (x, y) (by simp)).2 (hcell 0 _ (by decide) rfl) (hcell 1 _ (by decide) rfl) (hcell 2 _ (by decide) rfl) (hcell 3 _ (by decide) rfl) (hcell 4 _ (by decide) rfl) (hcell 5 _ (by decide) rfl) (hcell 6 _ (by decide) rfl) hbl.size hown fin
    · obtain ⟨⟨x, y⟩, ⟨x1, y1⟩, ⟨x2, y2⟩, rfl⟩ : ∃ p q r, pts = [p, q, r] := by match pts, hp with | [p, q, r], _ => exact ⟨p, q, r, rfl⟩
      exact seg_r3 hQp' hi hk hlt (hbd (x, y) (by simp)).1 (hbd (x, y) (by simp)).2 (hbd (x1, y1) (by simp)).1 (hbd (x1, y1) (by simp)).2 (hbd (x2, y2) (by simp)).1 (hbd (x2, y2) (by simp)).2 (hcell 0 _ (by decide) rfl) (hcell 1 _ (by decide) rfl) (hcell 2 _ (by decide) rfl) (hcell 3 _ (by decide) rfl) (hcell 4 _ (by decide) rfl) (hcell 5 _ (by decide) rfl) (hcell 6 _ (by decide) rfl) hbl.size hown fin
  · obtain rfl : i = k := by omega
    rw [hF.lit]
    rw [List.take_of_length_le (by omega)] at hG
    exact end15 fun t' hF' => hQ _ _ _ _ hF' hown hG hbl

set_option maxRecDepth 100000 in
set_option maxHeartbeats 1000000 in
theorem segsOf_c (hl : segs.length = k) (hk : k ≤ 100000) (hao : 0 < k → ao = some ⟨sb, 0, none⟩) (hsb : 0 < k → sb < w0.heap.size) (hc : ∀ j v, (segCs segs)[j]? = some v → w0.cell? ⟨sb, j, none⟩ = some v) (hok : ∀ sg ∈ segs, SegOk sg) :
    Calls Tryz.prog 15 #[.slice ao k c] w0 (fun e w' => ∃ v ys, e = .returned v ∧ w'.ownsRow w0.heap.size 54 2 v k ys ∧ GSegs w' w0.heap.size segs ys ∧ Below w0.heap.size w0 w') := by
  have H1 := Lib.hid hl
  have H2 := Lib.hid hao
  have H3 := Lib.hid hsb
  have H4 := Lib.hid hc
  have H5 := Lib.hid hok
  clear hl hao hsb hc hok
  go_enter Tryz.func15, Tryz.ntmps15
  go_wp2_with fail
  refine wp_loop (W15 k c ao segs w0) (mu15 k) ?_ (fun a w' hW => round15 H1.out hk H2.out H3.out H4.out H5.out ?_ ?_ a w' hW)
  · exact ⟨_, 0, .slice none 0 0, [], rfl, ⟨rfl, rfl, rfl, rfl, rfl⟩, Nat.zero_le _, World.ownsRow_nil _ _ _ _, rfl, Below.refl _ _⟩
  · exact fun _ _ d _ _ h => (by cases d <;> exact h)
  · intro t vo ys w1 hF hown hG hbl
    rw [hF.lit]
    unfold fr15
    go_wp2_with fail
    go_ret
    exact ⟨vo, ys, rfl, hown, hG, hbl⟩
end
end Go.Proofs.YtoanpkfekhkaoaaGreatDoor
