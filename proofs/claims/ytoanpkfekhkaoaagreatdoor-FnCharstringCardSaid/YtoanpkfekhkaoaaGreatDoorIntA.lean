/-
  The interpreter's state: what the buffer's block holds, and what a step leaves. No walk in sight.
-/
import Derived.Test.YtoanpkfekhkaoaaGreatDoorRows
import Derived.Test.YtoanpkfekhkaoaaGreatDoorBase
import Derived.Lib.Hide
namespace Go.Proofs.YtoanpkfekhkaoaaGreatDoor
open Go Go.RowKit

structure PS where
  stk : List Int
  x : Int
  y : Int
  fx : Int
  fy : Int
  seen : Bool
  ended : Bool
  segs : List Seg

def segC (s : Seg) : List Value :=
  [.int .u32 s.op, .int .i32 (s.pts.getD 0 (0, 0)).1, .int .i32 (s.pts.getD 0 (0, 0)).2, .int .i32 (s.pts.getD 1 (0, 0)).1, .int .i32 (s.pts.getD 1 (0, 0)).2,
    .int .i32 (s.pts.getD 2 (0, 0)).1, .int .i32 (s.pts.getD 2 (0, 0)).2]
def segCs (l : List Seg) : List Value := l.flatMap segC
theorem segCs_snoc (l : List Seg) (s : Seg) : segCs (l ++ [s]) = segCs l ++ segC s := by simp [segCs]

structure BufOk (Bb : Nat) (ins : Value) (s : PS) (cur : Array Value) : Prop where
  size : cur.size = 670
  ctx : cur[514]? = some (.int .u32 2)
  ins : cur[515]? = some ins
  top : cur[566]? = some (.int .i32 s.stk.length)
  stk : ∀ i v, s.stk[i]? = some v → cur[518 + i]? = some (.int .i32 v)
  ctop : cur[587]? = some (.int .i32 0)
  bptr : cur[660]? = some (.pointer (some ⟨Bb, 0, none⟩))
  x : cur[661]? = some (.int .i32 s.x)
  y : cur[662]? = some (.int .i32 s.y)
  fx : cur[663]? = some (.int .i32 s.fx)
  fy : cur[664]? = some (.int .i32 s.fy)
  seen : cur[666]? = some (.bool s.seen)
  ended : cur[667]? = some (.bool s.ended)
  lim : s.stk.length ≤ 48

structure PSt (Bb lo : Nat) (ins : Value) (s : PS) (w : World) : Prop where
  blk : ∃ cur, w.heap[Bb]? = some (.cells cur 103 (0, 0)) ∧ BufOk Bb ins s cur ∧ ∃ sv, cur[1]? = some sv ∧ w.ownsRow lo 112 7 sv s.segs.length (segCs s.segs)
  low : lo ≤ Bb

/-- What a step leaves of the other blocks. -/
structure PFrm (Bb lo : Nat) (w w' : World) : Prop where
  os : w'.os = w.os
  tape : w'.tape = w.tape
  output : w'.output = w.output
  size : w.heap.size ≤ w'.heap.size
  blk : ∀ k, k < w.heap.size → k ≠ Bb → (lo ≤ k → ¬ isTy w k 112) → w'.heap[k]? = w.heap[k]?
theorem PFrm.refl (Bb lo : Nat) (w : World) : PFrm Bb lo w w := ⟨rfl, rfl, rfl, Nat.le_refl _, fun _ _ _ _ => rfl⟩
theorem PFrm.trans {Bb lo : Nat} {a b c : World} (h : PFrm Bb lo a b) (k : PFrm Bb lo b c) : PFrm Bb lo a c :=
  ⟨k.os.trans h.os, k.tape.trans h.tape, k.output.trans h.output, Nat.le_trans h.size k.size, fun i hi hb h5 => by
    have e := h.blk i hi hb h5
    exact (k.blk i (Nat.lt_of_lt_of_le hi h.size) hb (fun hl t => h5 hl ((isTy.congr e).1 t))).trans e⟩
theorem PFrm.below {Bb lo : Nat} {w w' : World} (h : PFrm Bb lo w w') (hb : lo ≤ Bb) (hs : lo ≤ w.heap.size) : Below lo w w' :=
  ⟨h.os, h.tape, h.output, h.size, fun k hk => h.blk k (by omega) (by omega) (fun hl => by omega)⟩
theorem PFrm.alloc (Bb lo : Nat) (w : World) (o : Obj) : PFrm Bb lo w (w.alloc o) := ⟨rfl, rfl, rfl, by simp, fun _ hk _ _ => blk_alloc o hk⟩
theorem PFrm.drewN (Bb lo : Nat) (w : World) (n : Nat) : PFrm Bb lo w (w.drewN n) := ⟨rfl, rfl, rfl, Nat.le_refl _, fun _ _ _ _ => rfl⟩
theorem PFrm.drew (Bb lo : Nat) (w : World) : PFrm Bb lo w w.drew := ⟨rfl, rfl, rfl, Nat.le_refl _, fun _ _ _ _ => rfl⟩
theorem PFrm.set (Bb lo : Nat) (w : World) (o : Nat) (v : Value) : PFrm Bb lo w (w.setCell ⟨Bb, o, none⟩ v) :=
  ⟨rfl, rfl, rfl, by simp, fun _ _ hb _ => blk_set_ne o v hb⟩

section
variable {Bb lo : Nat} {ins : Value} {s : PS} {w : World}

theorem PSt.carry (h : PSt Bb lo ins s w) {w' : World} (hk : ∀ k, k < w.heap.size → w'.heap[k]? = w.heap[k]?) : PSt Bb lo ins s w' := by
  obtain ⟨⟨cur, h1, h2, sv, h3, h4⟩, hl⟩ := h
  exact ⟨⟨cur, by rw [hk _ (blk_lt h1)]; exact h1, h2, sv, h3, own_of h4 fun k _ ⟨_, _, hx⟩ => hk k (blk_lt hx)⟩, hl⟩
theorem PSt.alloc (h : PSt Bb lo ins s w) (o : Obj) : PSt Bb lo ins s (w.alloc o) := h.carry fun _ hk => blk_alloc o hk
theorem PSt.drewN (h : PSt Bb lo ins s w) (n : Nat) : PSt Bb lo ins s (w.drewN n) := h.carry fun _ _ => rfl
theorem PSt.drew (h : PSt Bb lo ins s w) : PSt Bb lo ins s w.drew := h.carry fun _ _ => rfl
theorem PSt.below (h : PSt Bb lo ins s w) {w' : World} (hb : Below w.heap.size w w') : PSt Bb lo ins s w' := h.carry fun k hk => hb.block k hk

/-- A store into the buffer's block. -/
theorem PSt.upd (h : PSt Bb lo ins s w) {ins' : Value} {s' : PS} (o : Nat) (v : Value) (hf : ∀ cur, BufOk Bb ins s cur → BufOk Bb ins' s' (cur.setIfInBounds o v)) (ho : o ≠ 1) (hs : s'.segs = s.segs) :
    PSt Bb lo ins' s' (w.setCell ⟨Bb, o, none⟩ v) := by
  obtain ⟨⟨cur, h1, h2, sv, h3, h4⟩, hl⟩ := h
  refine ⟨⟨_, blk_set h1 o v, hf cur h2, sv, ?_, ?_⟩, hl⟩
  · rw [Array.getElem?_setIfInBounds_ne ho]; exact h3
  · rw [hs]; exact own_of h4 fun k _ hk => blk_set_ne o v (ty_ne hk h1 (by decide))

theorem BufOk.set {cur : Array Value} (h : BufOk Bb ins s cur) {o : Nat} {v : Value} (ho : o < 670) : ∀ j, (cur.setIfInBounds o v)[j]? = if o = j then some v else cur[j]? := by
  intro j
  rw [Array.getElem?_setIfInBounds]
  split
  · rw [if_pos (by have := h.size; omega)]
  · rfl

theorem PSt.setX (h : PSt Bb lo ins s w) (v : Int) : PSt Bb lo ins { s with x := v } (w.setCell ⟨Bb, 661, none⟩ (.int .i32 v)) :=
  h.upd _ _ (fun cur hc => by
    have e := hc.set (o := 661) (v := .int .i32 v) (by decide)
    exact ⟨by simpa using hc.size, by rw [e]; exact hc.ctx, by rw [e]; exact hc.ins, by rw [e]; exact hc.top, fun i u hu => by rw [e, if_neg (by have h' : i < s.stk.length := (List.getElem?_eq_some_iff.1 hu).1; have := hc.lim; omega)]; exact hc.stk i u hu,
      by rw [e]; exact hc.ctop, by rw [e]; exact hc.bptr, by rw [e]; rfl, by rw [e]; exact hc.y, by rw [e]; exact hc.fx, by rw [e]; exact hc.fy, by rw [e]; exact hc.seen, by rw [e]; exact hc.ended, hc.lim⟩) (by decide) rfl
theorem PSt.setY (h : PSt Bb lo ins s w) (v : Int) : PSt Bb lo ins { s with y := v } (w.setCell ⟨Bb, 662, none⟩ (.int .i32 v)) :=
  h.upd _ _ (fun cur hc => by
    have e := hc.set (o := 662) (v := .int .i32 v) (by decide)
    exact ⟨by simpa using hc.size, by rw [e]; exact hc.ctx, by rw [e]; exact hc.ins, by rw [e]; exact hc.top, fun i u hu => by rw [e, if_neg (by have h' : i < s.stk.length := (List.getElem?_eq_some_iff.1 hu).1; have := hc.lim; omega)]; exact hc.stk i u hu,
      by rw [e]; exact hc.ctop, by rw [e]; exact hc.bptr, by rw [e]; exact hc.x, by rw [e]; rfl, by rw [e]; exact hc.fx, by rw [e]; exact hc.fy, by rw [e]; exact hc.seen, by rw [e]; exact hc.ended, hc.lim⟩) (by decide) rfl
theorem PSt.setFx (h : PSt Bb lo ins s w) (v : Int) : PSt Bb lo ins { s with fx := v } (w.setCell ⟨Bb, 663, none⟩ (.int .i32 v)) :=
  h.upd _ _ (fun cur hc => by
    have e := hc.set (o := 663) (v := .int .i32 v) (by decide)
    exact ⟨by simpa using hc.size, by rw [e]; exact hc.ctx, by rw [e]; exact hc.ins, by rw [e]; exact hc.top, fun i u hu => by rw [e, if_neg (by have h' : i < s.stk.length := (List.getElem?_eq_some_iff.1 hu).1; have := hc.lim; omega)]; exact hc.stk i u hu,
      by rw [e]; exact hc.ctop, by rw [e]; exact hc.bptr, by rw [e]; exact hc.x, by rw [e]; exact hc.y, by rw [e]; rfl, by rw [e]; exact hc.fy, by rw [e]; exact hc.seen, by rw [e]; exact hc.ended, hc.lim⟩) (by decide) rfl
theorem PSt.setFy (h : PSt Bb lo ins s w) (v : Int) : PSt Bb lo ins { s with fy := v } (w.setCell ⟨Bb, 664, none⟩ (.int .i32 v)) :=
  h.upd _ _ (fun cur hc => by
    have e := hc.set (o := 664) (v := .int .i32 v) (by decide)
    exact ⟨by simpa using hc.size, by rw [e]; exact hc.ctx, by rw [e]; exact hc.ins, by rw [e]; exact hc.top, fun i u hu => by rw [e, if_neg (by have h' : i < s.stk.length := (List.getElem?_eq_some_iff.1 hu).1; have := hc.lim; omega)]; exact hc.stk i u hu,
      by rw [e]; exact hc.ctop, by rw [e]; exact hc.bptr, by rw [e]; exact hc.x, by rw [e]; exact hc.y, by rw [e]; exact hc.fx, by rw [e]; rfl, by rw [e]; exact hc.seen, by rw [e]; exact hc.ended, hc.lim⟩) (by decide) rfl
theorem PSt.setSeen (h : PSt Bb lo ins s w) (v : Bool) : PSt Bb lo ins { s with seen := v } (w.setCell ⟨Bb, 666, none⟩ (.bool v)) :=
  h.upd _ _ (fun cur hc => by
    have e := hc.set (o := 666) (v := .bool v) (by decide)
    exact ⟨by simpa using hc.size, by rw [e]; exact hc.ctx, by rw [e]; exact hc.ins, by rw [e]; exact hc.top, fun i u hu => by rw [e, if_neg (by have h' : i < s.stk.length := (List.getElem?_eq_some_iff.1 hu).1; have := hc.lim; omega)]; exact hc.stk i u hu,
      by rw [e]; exact hc.ctop, by rw [e]; exact hc.bptr, by rw [e]; exact hc.x, by rw [e]; exact hc.y, by rw [e]; exact hc.fx, by rw [e]; exact hc.fy, by rw [e]; rfl, by rw [e]; exact hc.ended, hc.lim⟩) (by decide) rfl
theorem PSt.setEnded (h : PSt Bb lo ins s w) (v : Bool) : PSt Bb lo ins { s with ended := v } (w.setCell ⟨Bb, 667, none⟩ (.bool v)) :=
  h.upd _ _ (fun cur hc => by
    have e := hc.set (o := 667) (v := .bool v) (by decide)
    exact ⟨by simpa using hc.size, by rw [e]; exact hc.ctx, by rw [e]; exact hc.ins, by rw [e]; exact hc.top, fun i u hu => by rw [e, if_neg (by have h' : i < s.stk.length := (List.getElem?_eq_some_iff.1 hu).1; have := hc.lim; omega)]; exact hc.stk i u hu,
      by rw [e]; exact hc.ctop, by rw [e]; exact hc.bptr, by rw [e]; exact hc.x, by rw [e]; exact hc.y, by rw [e]; exact hc.fx, by rw [e]; exact hc.fy, by rw [e]; exact hc.seen, by rw [e]; rfl, hc.lim⟩) (by decide) rfl
theorem PSt.setIns (h : PSt Bb lo ins s w) (v : Value) : PSt Bb lo v s (w.setCell ⟨Bb, 515, none⟩ v) :=
  h.upd _ _ (fun cur hc => by
    have e := hc.set (o := 515) (v := v) (by decide)
    exact ⟨by simpa using hc.size, by rw [e]; exact hc.ctx, by rw [e]; rfl, by rw [e]; exact hc.top, fun i u hu => by rw [e, if_neg (by omega)]; exact hc.stk i u hu,
      by rw [e]; exact hc.ctop, by rw [e]; exact hc.bptr, by rw [e]; exact hc.x, by rw [e]; exact hc.y, by rw [e]; exact hc.fx, by rw [e]; exact hc.fy, by rw [e]; exact hc.seen, by rw [e]; exact hc.ended, hc.lim⟩) (by decide) rfl
/-- The stack is cut to its first 'n' values. -/
theorem PSt.setTop (h : PSt Bb lo ins s w) (n : Nat) (hn : n ≤ s.stk.length) : PSt Bb lo ins { s with stk := s.stk.take n } (w.setCell ⟨Bb, 566, none⟩ (.int .i32 n)) :=
  h.upd _ _ (fun cur hc => by
    have e := hc.set (o := 566) (v := .int .i32 n) (by decide)
    have hl := hc.lim
    have hlen : (s.stk.take n).length = n := by simp; omega
    exact ⟨by simpa using hc.size, by rw [e]; exact hc.ctx, by rw [e]; exact hc.ins, by rw [e]; simp only [hlen]; rfl, fun i u hu => by
        have h1 := (List.getElem?_eq_some_iff.1 hu).1
        simp only [hlen] at h1
        rw [e, if_neg (by omega)]
        simp only [List.getElem?_take, if_pos h1] at hu
        exact hc.stk i u hu,
      by rw [e]; exact hc.ctop, by rw [e]; exact hc.bptr, by rw [e]; exact hc.x, by rw [e]; exact hc.y, by rw [e]; exact hc.fx, by rw [e]; exact hc.fy, by rw [e]; exact hc.seen, by rw [e]; exact hc.ended, by simp only [hlen]; omega⟩) (by decide) rfl
/-- A value is pushed. -/
theorem PSt.push (h : PSt Bb lo ins s w) (v : Int) (n : Nat) (hn : s.stk.length = n) (h48 : n < 48) :
    PSt Bb lo ins { s with stk := s.stk ++ [v] } ((w.setCell ⟨Bb, 518 + n, none⟩ (.int .i32 v)).setCell ⟨Bb, 566, none⟩ (.int .i32 ((n : Int) + 1))) := by
  subst hn
  obtain ⟨⟨cur, h1, hc, sv, h3, h4⟩, hl⟩ := h
  have e1 := hc.set (o := 518 + s.stk.length) (v := .int .i32 v) (by omega)
  have e2 : ∀ j, ((cur.setIfInBounds (518 + s.stk.length) (.int .i32 v)).setIfInBounds 566 (.int .i32 ((s.stk.length : Int) + 1)))[j]? = if 566 = j then some (.int .i32 ((s.stk.length : Int) + 1)) else if 518 + s.stk.length = j then some (.int .i32 v) else cur[j]? := by
    intro j
    rw [Array.getElem?_setIfInBounds, e1]
    have := hc.size
    split
    · rw [if_pos (by simp; omega)]
    · rfl
  refine ⟨⟨_, blk_set (blk_set h1 _ _) _ _, ?_, sv, ?_, ?_⟩, hl⟩
  · exact ⟨by simpa using hc.size, by rw [e2, if_neg (by decide), if_neg (by omega)]; exact hc.ctx, by rw [e2, if_neg (by decide), if_neg (by omega)]; exact hc.ins, by rw [e2, if_pos rfl]; simp, fun i u hu => by
        have hi := (List.getElem?_eq_some_iff.1 hu).1
        simp only [List.length_append, List.length_cons, List.length_nil] at hi
        rw [e2, if_neg (by omega)]
        by_cases hh : i = s.stk.length
        · subst hh
          rw [if_pos rfl]
          simp at hu
          rw [hu]
        · rw [if_neg (by omega)]
          simp only at hu
          rw [List.getElem?_append_left (by omega)] at hu
          exact hc.stk i u hu,
      by rw [e2, if_neg (by decide), if_neg (by omega)]; exact hc.ctop, by rw [e2, if_neg (by decide), if_neg (by omega)]; exact hc.bptr, by rw [e2, if_neg (by decide), if_neg (by omega)]; exact hc.x,
      by rw [e2, if_neg (by decide), if_neg (by omega)]; exact hc.y, by rw [e2, if_neg (by decide), if_neg (by omega)]; exact hc.fx, by rw [e2, if_neg (by decide), if_neg (by omega)]; exact hc.fy,
      by rw [e2, if_neg (by decide), if_neg (by omega)]; exact hc.seen, by rw [e2, if_neg (by decide), if_neg (by omega)]; exact hc.ended, by simp; omega⟩
  · rw [e2, if_neg (by decide), if_neg (by omega)]; exact h3
  · exact own_of h4 fun k _ hk => (blk_set_ne _ _ (ty_ne hk h1 (by decide))).trans (blk_set_ne _ _ (ty_ne hk h1 (by decide)))

/-- Behind an append of a segment, the value stored back. -/
theorem PSt.setSegs (h : PSt Bb lo ins s w) {sv v' : Value} {w1 : World} {sg : Seg} (hv : w.cell? ⟨Bb, 1, none⟩ = some sv) (hg : w.grownBy w1 sv.ownBlock)
    (ho' : w1.ownsRow lo 112 7 v' (s.segs.length + 1) (segCs s.segs ++ segC sg)) :
    PSt Bb lo ins { s with segs := s.segs ++ [sg] } (w1.setCell ⟨Bb, 1, none⟩ v') ∧ PFrm Bb lo w (w1.setCell ⟨Bb, 1, none⟩ v') := by
  obtain ⟨⟨cur, h1, hc, sv2, h3, h4⟩, hl⟩ := h
  obtain rfl : sv2 = sv := by rw [blk_cell h1, h3] at hv; exact Option.some.inj hv
  have ne1 : ∀ j, j < w.heap.size → (lo ≤ j → ¬ isTy w j 112) → w1.heap[j]? = w.heap[j]? := fun j hj hn => hg.block j hj fun e => by have := own_ty h4 e.symm; exact hn this.2 this.1
  have hB : w1.heap[Bb]? = some (.cells cur 103 (0, 0)) := by rw [ne1 Bb (blk_lt h1) fun _ => isTy.ne h1 (by decide)]; exact h1
  have e := hc.set (o := 1) (v := v') (by decide)
  refine ⟨⟨⟨_, blk_set hB 1 v', ?_, v', by rw [e, if_pos rfl], ?_⟩, hl⟩, ⟨hg.os, hg.tape, hg.output, by simpa using hg.size, fun k hk hb hn => (blk_set_ne _ _ hb).trans (ne1 k hk hn)⟩⟩
  · exact ⟨by simpa using hc.size, by rw [e]; exact hc.ctx, by rw [e]; exact hc.ins, by rw [e]; exact hc.top, fun i u hu => by rw [e, if_neg (by omega)]; exact hc.stk i u hu,
      by rw [e]; exact hc.ctop, by rw [e]; exact hc.bptr, by rw [e]; exact hc.x, by rw [e]; exact hc.y, by rw [e]; exact hc.fx, by rw [e]; exact hc.fy, by rw [e]; exact hc.seen, by rw [e]; exact hc.ended, hc.lim⟩
  · simp only [List.length_append, List.length_cons, List.length_nil, segCs_snoc]
    exact own_of ho' fun k _ hk => blk_set_ne _ _ (ty_ne hk hB (by decide))

/-! ### The cells -/
theorem PSt.cell (h : PSt Bb lo ins s w) : w.cell? ⟨Bb, 514, none⟩ = some (.int .u32 2) ∧ w.cell? ⟨Bb, 515, none⟩ = some ins ∧ w.cell? ⟨Bb, 566, none⟩ = some (.int .i32 s.stk.length) ∧ w.cell? ⟨Bb, 587, none⟩ = some (.int .i32 0) ∧
    w.cell? ⟨Bb, 660, none⟩ = some (.pointer (some ⟨Bb, 0, none⟩)) ∧ w.cell? ⟨Bb, 661, none⟩ = some (.int .i32 s.x) ∧ w.cell? ⟨Bb, 662, none⟩ = some (.int .i32 s.y) ∧ w.cell? ⟨Bb, 663, none⟩ = some (.int .i32 s.fx) ∧
    w.cell? ⟨Bb, 664, none⟩ = some (.int .i32 s.fy) ∧ w.cell? ⟨Bb, 666, none⟩ = some (.bool s.seen) ∧ w.cell? ⟨Bb, 667, none⟩ = some (.bool s.ended) := by
  obtain ⟨⟨cur, h1, hc, _⟩, _⟩ := h
  simp only [blk_cell h1]
  exact ⟨hc.ctx, hc.ins, hc.top, hc.ctop, hc.bptr, hc.x, hc.y, hc.fx, hc.fy, hc.seen, hc.ended⟩
theorem PSt.arg (h : PSt Bb lo ins s w) {i : Nat} {v : Int} (hi : s.stk[i]? = some v) : w.cell? ⟨Bb, 518 + i, none⟩ = some (.int .i32 v) := by
  obtain ⟨⟨cur, h1, hc, _⟩, _⟩ := h
  rw [blk_cell h1]; exact hc.stk i v hi
theorem PSt.any (h : PSt Bb lo ins s w) {o : Nat} (ho : o < 670) : ∃ v, w.cell? ⟨Bb, o, none⟩ = some v := by
  obtain ⟨⟨cur, h1, hc, _⟩, _⟩ := h
  rw [blk_cell h1]
  have := hc.size
  exact ⟨cur[o], Array.getElem?_eq_getElem (by omega)⟩
theorem PSt.free (h : PSt Bb lo ins s w) (o : Nat) : w.frozen? ⟨Bb, o, none⟩ = false := by
  obtain ⟨⟨cur, h1, _⟩, _⟩ := h
  exact blk_free h1 o
theorem PSt.lt (h : PSt Bb lo ins s w) : Bb < w.heap.size := by
  obtain ⟨⟨cur, h1, _⟩, _⟩ := h
  exact blk_lt h1
theorem PSt.sv (h : PSt Bb lo ins s w) : ∃ sv, w.cell? ⟨Bb, 1, none⟩ = some sv := h.any (by decide)
theorem PSt.lim (h : PSt Bb lo ins s w) : s.stk.length ≤ 48 := by
  obtain ⟨⟨cur, h1, hc, _⟩, _⟩ := h
  exact hc.lim
end
end Go.Proofs.YtoanpkfekhkaoaaGreatDoor
