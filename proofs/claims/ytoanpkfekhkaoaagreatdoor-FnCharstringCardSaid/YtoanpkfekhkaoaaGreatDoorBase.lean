/-
  Plain lemmas about worlds, blocks and owned rows, and the abstract state of both sides. No program in sight.
-/
import Derived.WalkKit
import Derived.WalkSpells
import Derived.WalkLawsBesides
namespace Go.Proofs.YtoanpkfekhkaoaaGreatDoor
open Go Go.RowKit

/-! ### Blocks -/
theorem blk_cell {w : World} {b : Nat} {cur : Array Value} {t : TypeId} {f : Nat × Nat} (h : w.heap[b]? = some (.cells cur t f)) (o : Nat) :
    w.cell? ⟨b, o, none⟩ = cur[o]? := by simp [World.cell?, h]
theorem blk_free {w : World} {b : Nat} {cur : Array Value} {t : TypeId} (h : w.heap[b]? = some (.cells cur t (0, 0))) (o : Nat) :
    w.frozen? ⟨b, o, none⟩ = false := by simp [World.frozen?, h]
theorem blk_lt {w : World} {b : Nat} {x : Obj} (h : w.heap[b]? = some x) : b < w.heap.size := lt_of_block h
theorem blk_set {w : World} {b : Nat} {cur : Array Value} {t : TypeId} {f : Nat × Nat} (h : w.heap[b]? = some (.cells cur t f)) (o : Nat) (v : Value) :
    (w.setCell ⟨b, o, none⟩ v).heap[b]? = some (.cells (cur.setIfInBounds o v) t f) := by
  simp [World.setCell, Array.getElem?_modify, h]
theorem blk_set_ne {w : World} {b k : Nat} (o : Nat) (v : Value) (h : k ≠ b) : (w.setCell ⟨b, o, none⟩ v).heap[k]? = w.heap[k]? :=
  Below.heap_setCell w _ v k h
theorem blk_alloc {w : World} {k : Nat} (o : Obj) (h : k < w.heap.size) : (w.alloc o).heap[k]? = w.heap[k]? := Below.heap_alloc w o k h
theorem blk_new (w : World) (o : Obj) : (w.alloc o).heap[w.heap.size]? = some o := heap_alloc_new w o

theorem blk_at (w : World) (o : Obj) {n : Nat} (h : n = w.heap.size) : (w.alloc o).heap[n]? = some o := by subst h; exact blk_new w o
theorem cell_past {w : World} {n i : Nat} {o : Obj} (h : n < w.heap.size) : (w.alloc o).cell? ⟨n, i, none⟩ = w.cell? ⟨n, i, none⟩ := World.cell?_of_block (w := w) (blk_alloc o h)
theorem cell_set_ne {w : World} {b o n i : Nat} {v : Value} (h : n ≠ b) : (w.setCell ⟨b, o, none⟩ v).cell? ⟨n, i, none⟩ = w.cell? ⟨n, i, none⟩ := World.cell?_of_block (w := w) (blk_set_ne o v h)
/-- The element type of a block of cells. -/
def isTy (w : World) (k : Nat) (t : TypeId) : Prop := ∃ cur f, w.heap[k]? = some (.cells cur t f)
theorem isTy.congr {w w' : World} {k : Nat} {t : TypeId} (h : w'.heap[k]? = w.heap[k]?) : isTy w' k t ↔ isTy w k t := by
  unfold isTy; rw [h]
theorem isTy.ne {w : World} {k : Nat} {cur : Array Value} {t e : TypeId} {f : Nat × Nat} (h : w.heap[k]? = some (.cells cur t f)) (hne : t ≠ e) : ¬ isTy w k e := by
  rintro ⟨c, g, h2⟩; rw [h] at h2; simp only [Option.some.injEq, Obj.cells.injEq] at h2; exact hne h2.2.1
theorem ty_ne {w : World} {k b : Nat} {cur : Array Value} {t e : TypeId} {f : Nat × Nat} (hk : isTy w k e) (h : w.heap[b]? = some (.cells cur t f)) (hne : t ≠ e) : k ≠ b :=
  fun e' => isTy.ne h hne (e' ▸ hk)
theorem own_ty {w : World} {base : Nat} {e : TypeId} {size : Nat} {v : Value} {n : Nat} {xs : List Value} (h : w.ownsRow base e size v n xs) {k : Nat} (hk : v.ownBlock = some k) : isTy w k e ∧ base ≤ k := by
  rcases h.2 with ⟨rfl, _⟩ | ⟨g, cap, cur, rfl, hb, hg, _⟩
  · simp [Value.ownBlock] at hk
  · simp [Value.ownBlock] at hk; subst hk; exact ⟨⟨_, _, hg⟩, hb⟩
theorem own_ne {w : World} {base : Nat} {e : TypeId} {size : Nat} {v : Value} {n : Nat} {xs : List Value} (h : w.ownsRow base e size v n xs) {k : Nat} (hk : ¬ isTy w k e) : v.ownBlock ≠ some k :=
  fun hh => hk (own_ty h hh).1
/-- A row hangs on the blocks of its own element type alone. -/
theorem own_of {w w' : World} {base : Nat} {e : TypeId} {size : Nat} {v : Value} {n : Nat} {xs : List Value} (h : w.ownsRow base e size v n xs)
    (hs : ∀ k, base ≤ k → isTy w k e → w'.heap[k]? = w.heap[k]?) : w'.ownsRow base e size v n xs := by
  refine ⟨h.1, ?_⟩
  rcases h.2 with hn | ⟨g, cap, cur, rfl, hb, hg, rest⟩
  · exact .inl hn
  · exact .inr ⟨g, cap, cur, rfl, hb, by rw [hs g hb ⟨_, _, hg⟩]; exact hg, rest⟩

/-! ### Segments of a path -/
structure Seg where
  op : Int
  pts : List (Int × Int)
def ptCells (l : List (Int × Int)) : List Value := l.flatMap fun p => [.int .i64 p.1, .int .i64 p.2]
theorem ptCells_length (l : List (Int × Int)) : (ptCells l).length = 2 * l.length := by
  induction l with
  | nil => rfl
  | cons a l ih => simp only [ptCells, List.flatMap_cons, List.length_append, List.length_cons, List.length_nil] at ih ⊢; omega
/-- The cells of a row of segments (spec's): each an op and a slice over a block of its own from 'lo' on. -/
def SegCells (w : World) (lo : Nat) : List Seg → List Value → Prop
  | [], xs => xs = []
  | s :: r, xs => ∃ g tl, xs = .int .i64 s.op :: .slice (some ⟨g, 0, none⟩) s.pts.length s.pts.length :: tl ∧ lo ≤ g ∧
      w.heap[g]? = some (.cells (ptCells s.pts).toArray 35 (0, 0)) ∧ SegCells w lo r tl
theorem SegCells.snoc {w : World} {lo : Nat} {s : Seg} {g : Nat} (hg : lo ≤ g) (hb : w.heap[g]? = some (.cells (ptCells s.pts).toArray 35 (0, 0))) :
    ∀ {l : List Seg} {xs : List Value}, SegCells w lo l xs → SegCells w lo (l ++ [s]) (xs ++ [.int .i64 s.op, .slice (some ⟨g, 0, none⟩) s.pts.length s.pts.length])
  | [], xs, h => by subst h; exact ⟨g, [], rfl, hg, hb, rfl⟩
  | a :: l, xs, h => by
    obtain ⟨k, tl, rfl, hk, hkb, ht⟩ := h
    exact ⟨k, _, rfl, hk, hkb, SegCells.snoc hg hb ht⟩
theorem SegCells.of {w w' : World} {lo : Nat} (hs : ∀ k, lo ≤ k → isTy w k 35 → w'.heap[k]? = w.heap[k]?) :
    ∀ {l : List Seg} {xs : List Value}, SegCells w lo l xs → SegCells w' lo l xs
  | [], xs, h => h
  | a :: l, xs, h => by
    obtain ⟨k, tl, rfl, hk, hkb, ht⟩ := h
    exact ⟨k, tl, rfl, hk, by rw [hs k hk ⟨_, _, hkb⟩]; exact hkb, SegCells.of hs ht⟩

/-! ### Tokens -/
inductive Tok where
  | num (v : Int)
  | op (b : Int)
def enc (wide : Bool) (v : Int) : List Int :=
  if wide then [28, v / 256 % 256, v % 256]
  else if -107 ≤ v ∧ v ≤ 107 then [139 + v]
  else if 108 ≤ v then [247 + (v - 108) / 256, (v - 108) % 256]
  else [251 + (-v - 108) / 256, (-v - 108) % 256]
def encT (wide : Bool) : Tok → List Int
  | .num v => enc wide v
  | .op b => [b]
def encs (wide : Bool) (ts : List Tok) : List Int := ts.flatMap (encT wide)
def u8s (l : List Int) : List Value := l.map (Value.int .u8)
theorem encs_append (wide : Bool) (a b : List Tok) : encs wide (a ++ b) = encs wide a ++ encs wide b := by simp [encs]
theorem encs_op (wide : Bool) (b : Int) : encs wide [.op b] = [b] := by simp [encs, encT]
theorem encs_num (wide : Bool) (v : Int) : encs wide [.num v] = enc wide v := by simp [encs, encT]
theorem u8s_append (a b : List Int) : u8s (a ++ b) = u8s a ++ u8s b := by simp [u8s]
theorem u8s_length (a : List Int) : (u8s a).length = a.length := by simp [u8s]
def wideOf (ways : Int) : Bool := bits BinOp.and IntKind.i64 ways 1 == 1

/-! ### The state of spec.Charstring -/
structure SS where
  toks : List Tok
  path : List Seg
  at_ : Nat
  here : Int × Int
  beg : Int × Int
  opn : Bool

structure SpecSt (B : Nat) (nv : Value) (ways : Int) (w0 : World) (s : SS) (w : World) : Prop where
  below : Below B w0 w
  big : B + 10 ≤ w.heap.size
  num : w.heap[B]? = some (.cells #[nv] 23 (0, 0))
  way : w.heap[B + 1]? = some (.cells #[.int .i64 ways] 3 (0, 0))
  out : ∃ v, w.heap[B + 3]? = some (.cells #[v] 22 (0, 0)) ∧ w.ownsRow B 5 1 v (encs (wideOf ways) s.toks).length (u8s (encs (wideOf ways) s.toks))
  pth : ∃ v xs, w.heap[B + 5]? = some (.cells #[v] 24 (0, 0)) ∧ w.ownsRow B 41 2 v s.path.length xs ∧ SegCells w (B + 10) s.path xs
  cat : w.heap[B + 6]? = some (.cells #[.int .i64 s.at_] 3 (0, 0))
  chere : w.heap[B + 7]? = some (.cells #[.int .i64 s.here.1, .int .i64 s.here.2] 35 (0, 0))
  cbeg : w.heap[B + 8]? = some (.cells #[.int .i64 s.beg.1, .int .i64 s.beg.2] 35 (0, 0))
  copn : w.heap[B + 9]? = some (.cells #[.bool s.opn] 4 (0, 0))

/-- What a step of spec.Charstring leaves of its other blocks. -/
structure SFrm (B : Nat) (w w' : World) : Prop where
  size : w.heap.size ≤ w'.heap.size
  blk : ∀ k, k < w.heap.size → B + 10 ≤ k → ¬ isTy w k 5 → ¬ isTy w k 41 → w'.heap[k]? = w.heap[k]?
theorem SFrm.refl (B : Nat) (w : World) : SFrm B w w := ⟨Nat.le_refl _, fun _ _ _ _ _ => rfl⟩
theorem SFrm.trans {B : Nat} {a b c : World} (h : SFrm B a b) (k : SFrm B b c) : SFrm B a c :=
  ⟨Nat.le_trans h.size k.size, fun i hi hb h5 h41 => by
    have e := h.blk i hi hb h5 h41
    exact (k.blk i (Nat.lt_of_lt_of_le hi h.size) hb (fun t => h5 ((isTy.congr e).1 t)) (fun t => h41 ((isTy.congr e).1 t))).trans e⟩

section
variable {B : Nat} {nv : Value} {ways : Int} {w0 : World} {s : SS} {w : World}

/-- All but the named variable's block as it was; that block one of another type than 5, 41. -/
theorem SpecSt.carry (h : SpecSt B nv ways w0 s w) {w' : World} (hos : w'.os = w.os) (htape : w'.tape = w.tape) (hout : w'.output = w.output) (hsz : w.heap.size ≤ w'.heap.size)
    (hk : ∀ k, k < w.heap.size → w'.heap[k]? = w.heap[k]?) : SpecSt B nv ways w0 s w' := by
  have hb := h.big
  obtain ⟨vo, ho1, ho2⟩ := h.out
  obtain ⟨vp, xs, hp1, hp2, hp3⟩ := h.pth
  refine ⟨h.below.trans ⟨hos, htape, hout, hsz, fun k hkB => hk k (by omega)⟩, by omega, ?_, ?_, ⟨vo, ?_, ?_⟩, ⟨vp, xs, ?_, ?_, ?_⟩, ?_, ?_, ?_, ?_⟩
  · rw [hk _ (by omega)]; exact h.num
  · rw [hk _ (by omega)]; exact h.way
  · rw [hk _ (by omega)]; exact ho1
  · exact own_of ho2 fun k _ ⟨_, _, hx⟩ => hk k (blk_lt hx)
  · rw [hk _ (by omega)]; exact hp1
  · exact own_of hp2 fun k _ ⟨_, _, hx⟩ => hk k (blk_lt hx)
  · exact SegCells.of (fun k _ ⟨_, _, hx⟩ => hk k (blk_lt hx)) hp3
  · rw [hk _ (by omega)]; exact h.cat
  · rw [hk _ (by omega)]; exact h.chere
  · rw [hk _ (by omega)]; exact h.cbeg
  · rw [hk _ (by omega)]; exact h.copn
theorem SpecSt.alloc (h : SpecSt B nv ways w0 s w) (o : Obj) : SpecSt B nv ways w0 s (w.alloc o) :=
  h.carry rfl rfl rfl (by simp) fun _ hk => blk_alloc o hk
theorem SpecSt.drewN (h : SpecSt B nv ways w0 s w) (n : Nat) : SpecSt B nv ways w0 s (w.drewN n) :=
  h.carry rfl rfl rfl (Nat.le_refl _) fun _ _ => rfl
theorem SpecSt.drew (h : SpecSt B nv ways w0 s w) : SpecSt B nv ways w0 s w.drew :=
  h.carry rfl rfl rfl (Nat.le_refl _) fun _ _ => rfl
theorem SFrm.alloc (B : Nat) (w : World) (o : Obj) : SFrm B w (w.alloc o) := ⟨by simp, fun _ hk _ _ _ => blk_alloc o hk⟩
theorem SFrm.drewN (B : Nat) (w : World) (n : Nat) : SFrm B w (w.drewN n) := ⟨Nat.le_refl _, fun _ _ _ _ _ => rfl⟩
theorem SFrm.set (B : Nat) (w : World) {b : Nat} (o : Nat) (v : Value) (hb : b < B + 10) : SFrm B w (w.setCell ⟨b, o, none⟩ v) :=
  ⟨by simp, fun _ _ _ _ _ => blk_set_ne o v (by omega)⟩

/-- A store into a block of SpecSt's own, of a type that is no row's: what the other parts are. -/
theorem SpecSt.setOther (h : SpecSt B nv ways w0 s w) {b o : Nat} {v : Value} {cur : Array Value} {t : TypeId} {f : Nat × Nat} (hb : w.heap[b]? = some (.cells cur t f)) (hB : B ≤ b)
    (h5 : t ≠ 5) (h41 : t ≠ 41) (h35 : t ≠ 35 ∨ b < B + 10) :
    Below B w0 (w.setCell ⟨b, o, none⟩ v) ∧
    (∀ x n xs, w.ownsRow B 5 1 x n xs → (w.setCell ⟨b, o, none⟩ v).ownsRow B 5 1 x n xs) ∧
    (∀ x n xs, w.ownsRow B 41 2 x n xs → (w.setCell ⟨b, o, none⟩ v).ownsRow B 41 2 x n xs) ∧
    (∀ l xs, SegCells w (B + 10) l xs → SegCells (w.setCell ⟨b, o, none⟩ v) (B + 10) l xs) := by
  refine ⟨h.below.setCell (p := ⟨b, o, none⟩) hB v, fun x n xs ho => ?_, fun x n xs ho => ?_, fun l xs ho => ?_⟩
  · exact own_of ho fun k _ hk => blk_set_ne o v (fun e => isTy.ne hb h5 (e ▸ hk))
  · exact own_of ho fun k _ hk => blk_set_ne o v (fun e => isTy.ne hb h41 (e ▸ hk))
  · refine SegCells.of (fun k hlo hk => blk_set_ne o v (fun e => ?_)) ho
    rcases h35 with h35 | h35
    · exact isTy.ne hb h35 (e ▸ hk)
    · omega

theorem SpecSt.setAt (h : SpecSt B nv ways w0 s w) (k : Nat) : SpecSt B nv ways w0 { s with at_ := k } (w.setCell ⟨B + 6, 0, none⟩ (.int .i64 k)) := by
  obtain ⟨h1, h2, h3, h4⟩ := h.setOther (o := 0) (v := .int .i64 k) h.cat (by omega) (by decide) (by decide) (Or.inl (by decide))
  obtain ⟨vo, ho1, ho2⟩ := h.out
  obtain ⟨vp, xs, hp1, hp2, hp3⟩ := h.pth
  have ne : ∀ j, j ≠ B + 6 → (w.setCell ⟨B + 6, 0, none⟩ (.int .i64 k)).heap[j]? = w.heap[j]? := fun j hj => blk_set_ne _ _ hj
  exact ⟨h1, by simpa using h.big, by rw [ne _ (by omega)]; exact h.num, by rw [ne _ (by omega)]; exact h.way, ⟨vo, by rw [ne _ (by omega)]; exact ho1, h2 _ _ _ ho2⟩,
    ⟨vp, xs, by rw [ne _ (by omega)]; exact hp1, h3 _ _ _ hp2, h4 _ _ hp3⟩, by rw [blk_set h.cat]; rfl, by rw [ne _ (by omega)]; exact h.chere,
    by rw [ne _ (by omega)]; exact h.cbeg, by rw [ne _ (by omega)]; exact h.copn⟩
theorem SpecSt.setOpn (h : SpecSt B nv ways w0 s w) (k : Bool) : SpecSt B nv ways w0 { s with opn := k } (w.setCell ⟨B + 9, 0, none⟩ (.bool k)) := by
  obtain ⟨h1, h2, h3, h4⟩ := h.setOther (o := 0) (v := .bool k) h.copn (by omega) (by decide) (by decide) (Or.inl (by decide))
  obtain ⟨vo, ho1, ho2⟩ := h.out
  obtain ⟨vp, xs, hp1, hp2, hp3⟩ := h.pth
  have ne : ∀ j, j ≠ B + 9 → (w.setCell ⟨B + 9, 0, none⟩ (.bool k)).heap[j]? = w.heap[j]? := fun j hj => blk_set_ne _ _ hj
  exact ⟨h1, by simpa using h.big, by rw [ne _ (by omega)]; exact h.num, by rw [ne _ (by omega)]; exact h.way, ⟨vo, by rw [ne _ (by omega)]; exact ho1, h2 _ _ _ ho2⟩,
    ⟨vp, xs, by rw [ne _ (by omega)]; exact hp1, h3 _ _ _ hp2, h4 _ _ hp3⟩, by rw [ne _ (by omega)]; exact h.cat, by rw [ne _ (by omega)]; exact h.chere,
    by rw [ne _ (by omega)]; exact h.cbeg, by rw [blk_set h.copn]; rfl⟩
theorem SpecSt.setHere (h : SpecSt B nv ways w0 s w) (x y : Int) : SpecSt B nv ways w0 { s with here := (x, y) } ((w.setCell ⟨B + 7, 0, none⟩ (.int .i64 x)).setCell ⟨B + 7, 1, none⟩ (.int .i64 y)) := by
  have hb := blk_set h.chere 0 (.int .i64 x)
  obtain ⟨h1, h2, h3, h4⟩ := h.setOther (o := 0) (v := .int .i64 x) h.chere (by omega) (by decide) (by decide) (Or.inr (by omega))
  obtain ⟨vo, ho1, ho2⟩ := h.out
  obtain ⟨vp, xs, hp1, hp2, hp3⟩ := h.pth
  have ne : ∀ j, j ≠ B + 7 → ((w.setCell ⟨B + 7, 0, none⟩ (.int .i64 x)).setCell ⟨B + 7, 1, none⟩ (.int .i64 y)).heap[j]? = w.heap[j]? := fun j hj => (blk_set_ne _ _ hj).trans (blk_set_ne _ _ hj)
  refine ⟨h1.setCell (p := ⟨B + 7, 1, none⟩) (by simp) _, by simpa using h.big, by rw [ne _ (by omega)]; exact h.num, by rw [ne _ (by omega)]; exact h.way, ⟨vo, by rw [ne _ (by omega)]; exact ho1, ?_⟩,
    ⟨vp, xs, by rw [ne _ (by omega)]; exact hp1, ?_, ?_⟩, by rw [ne _ (by omega)]; exact h.cat, ?_,
    by rw [ne _ (by omega)]; exact h.cbeg, by rw [ne _ (by omega)]; exact h.copn⟩
  · exact own_of ho2 fun k _ hk => ne k fun e => isTy.ne h.chere (by decide) (e ▸ hk)
  · exact own_of hp2 fun k _ hk => ne k fun e => isTy.ne h.chere (by decide) (e ▸ hk)
  · exact SegCells.of (fun k hlo hk => ne k (by omega)) hp3
  · rw [blk_set hb]; rfl
theorem SpecSt.setBeg (h : SpecSt B nv ways w0 s w) (x y : Int) : SpecSt B nv ways w0 { s with beg := (x, y) } ((w.setCell ⟨B + 8, 0, none⟩ (.int .i64 x)).setCell ⟨B + 8, 1, none⟩ (.int .i64 y)) := by
  have hb := blk_set h.cbeg 0 (.int .i64 x)
  obtain ⟨h1, h2, h3, h4⟩ := h.setOther (o := 0) (v := .int .i64 x) h.cbeg (by omega) (by decide) (by decide) (Or.inr (by omega))
  obtain ⟨vo, ho1, ho2⟩ := h.out
  obtain ⟨vp, xs, hp1, hp2, hp3⟩ := h.pth
  have ne : ∀ j, j ≠ B + 8 → ((w.setCell ⟨B + 8, 0, none⟩ (.int .i64 x)).setCell ⟨B + 8, 1, none⟩ (.int .i64 y)).heap[j]? = w.heap[j]? := fun j hj => (blk_set_ne _ _ hj).trans (blk_set_ne _ _ hj)
  refine ⟨h1.setCell (p := ⟨B + 8, 1, none⟩) (by simp) _, by simpa using h.big, by rw [ne _ (by omega)]; exact h.num, by rw [ne _ (by omega)]; exact h.way, ⟨vo, by rw [ne _ (by omega)]; exact ho1, ?_⟩,
    ⟨vp, xs, by rw [ne _ (by omega)]; exact hp1, ?_, ?_⟩, by rw [ne _ (by omega)]; exact h.cat, by rw [ne _ (by omega)]; exact h.chere, ?_, by rw [ne _ (by omega)]; exact h.copn⟩
  · exact own_of ho2 fun k _ hk => ne k fun e => isTy.ne h.cbeg (by decide) (e ▸ hk)
  · exact own_of hp2 fun k _ hk => ne k fun e => isTy.ne h.cbeg (by decide) (e ▸ hk)
  · exact SegCells.of (fun k hlo hk => ne k (by omega)) hp3
  · rw [blk_set hb]; rfl

/-- Behind an append to 'out', its value stored back. -/
theorem SpecSt.setOut (h : SpecSt B nv ways w0 s w) {v v' : Value} {w1 : World} {ts : List Tok} (hv : w.heap[B + 3]? = some (.cells #[v] 22 (0, 0)))
    (ho : w.ownsRow B 5 1 v (encs (wideOf ways) s.toks).length (u8s (encs (wideOf ways) s.toks))) (hg : w.grownBy w1 v.ownBlock)
    (ho' : w1.ownsRow B 5 1 v' (encs (wideOf ways) ts).length (u8s (encs (wideOf ways) ts))) :
    SpecSt B nv ways w0 { s with toks := ts } (w1.setCell ⟨B + 3, 0, none⟩ v') ∧ SFrm B w (w1.setCell ⟨B + 3, 0, none⟩ v') := by
  have hbig := h.big
  obtain ⟨vp, xs, hp1, hp2, hp3⟩ := h.pth
  have ne1 : ∀ j, j < w.heap.size → ¬ isTy w j 5 → w1.heap[j]? = w.heap[j]? := fun j hj h5 => hg.block j hj fun e => own_ne ho h5 e.symm
  have ne : ∀ j, j < w.heap.size → j ≠ B + 3 → ¬ isTy w j 5 → (w1.setCell ⟨B + 3, 0, none⟩ v').heap[j]? = w.heap[j]? := fun j hj hj3 h5 => (blk_set_ne _ _ hj3).trans (ne1 j hj h5)
  have h3 : w1.heap[B + 3]? = some (.cells #[v] 22 (0, 0)) := by rw [ne1 _ (by omega) (isTy.ne hv (by decide))]; exact hv
  have nB : ∀ j, j < B → (w1.setCell ⟨B + 3, 0, none⟩ v').heap[j]? = w.heap[j]? := fun j hj =>
    (blk_set_ne _ _ (by omega)).trans (hg.block j (by omega) fun e => by have := (own_ty ho e.symm).2; omega)
  refine ⟨⟨h.below.trans ⟨hg.os, hg.tape, hg.output, by simpa using hg.size, nB⟩, by have := hg.size; simp; omega,
    by rw [ne _ (by omega) (by omega) (isTy.ne h.num (by decide))]; exact h.num, by rw [ne _ (by omega) (by omega) (isTy.ne h.way (by decide))]; exact h.way, ⟨v', by rw [blk_set h3]; rfl, ?_⟩,
    ⟨vp, xs, by rw [ne _ (by omega) (by omega) (isTy.ne hp1 (by decide))]; exact hp1, ?_, ?_⟩, by rw [ne _ (by omega) (by omega) (isTy.ne h.cat (by decide))]; exact h.cat,
    by rw [ne _ (by omega) (by omega) (isTy.ne h.chere (by decide))]; exact h.chere, by rw [ne _ (by omega) (by omega) (isTy.ne h.cbeg (by decide))]; exact h.cbeg,
    by rw [ne _ (by omega) (by omega) (isTy.ne h.copn (by decide))]; exact h.copn⟩, by simpa using hg.size, fun k hk hB h5 _ => ne k hk (by omega) h5⟩
  · exact own_of ho' fun k _ hk => blk_set_ne _ _ (ty_ne hk h3 (by decide))
  · exact own_of hp2 fun k _ ⟨c, f, hk⟩ => ne k (blk_lt hk) (ty_ne ⟨c, f, hk⟩ hv (by decide)) (isTy.ne hk (by decide))
  · exact SegCells.of (fun k hlo ⟨c, f, hk⟩ => ne k (blk_lt hk) (by omega) (isTy.ne hk (by decide))) hp3

/-- Behind an append to 'path' of a segment whose points lie in block g, its value stored back. -/
theorem SpecSt.setPath (h : SpecSt B nv ways w0 s w) {v v' : Value} {xs : List Value} {w1 : World} {sg : Seg} {g : Nat} (hv : w.heap[B + 5]? = some (.cells #[v] 24 (0, 0)))
    (ho : w.ownsRow B 41 2 v s.path.length xs) (hc : SegCells w (B + 10) s.path xs) (hg : w.grownBy w1 v.ownBlock) (hgB : B + 10 ≤ g)
    (hgb : w.heap[g]? = some (.cells (ptCells sg.pts).toArray 35 (0, 0)))
    (ho' : w1.ownsRow B 41 2 v' (s.path.length + 1) (xs ++ [.int .i64 sg.op, .slice (some ⟨g, 0, none⟩) sg.pts.length sg.pts.length])) :
    SpecSt B nv ways w0 { s with path := s.path ++ [sg] } (w1.setCell ⟨B + 5, 0, none⟩ v') ∧ SFrm B w (w1.setCell ⟨B + 5, 0, none⟩ v') := by
  have hbig := h.big
  obtain ⟨vo, hp1, hp2⟩ := h.out
  have ne1 : ∀ j, j < w.heap.size → ¬ isTy w j 41 → w1.heap[j]? = w.heap[j]? := fun j hj h5 => hg.block j hj fun e => own_ne ho h5 e.symm
  have ne : ∀ j, j < w.heap.size → j ≠ B + 5 → ¬ isTy w j 41 → (w1.setCell ⟨B + 5, 0, none⟩ v').heap[j]? = w.heap[j]? := fun j hj hj3 h5 => (blk_set_ne _ _ hj3).trans (ne1 j hj h5)
  have h3 : w1.heap[B + 5]? = some (.cells #[v] 24 (0, 0)) := by rw [ne1 _ (by omega) (isTy.ne hv (by decide))]; exact hv
  have nB : ∀ j, j < B → (w1.setCell ⟨B + 5, 0, none⟩ v').heap[j]? = w.heap[j]? := fun j hj =>
    (blk_set_ne _ _ (by omega)).trans (hg.block j (by omega) fun e => by have := (own_ty ho e.symm).2; omega)
  refine ⟨⟨h.below.trans ⟨hg.os, hg.tape, hg.output, by simpa using hg.size, nB⟩, by have := hg.size; simp; omega,
    by rw [ne _ (by omega) (by omega) (isTy.ne h.num (by decide))]; exact h.num, by rw [ne _ (by omega) (by omega) (isTy.ne h.way (by decide))]; exact h.way,
    ⟨vo, by rw [ne _ (by omega) (by omega) (isTy.ne hp1 (by decide))]; exact hp1, ?_⟩,
    ⟨v', xs ++ [.int .i64 sg.op, .slice (some ⟨g, 0, none⟩) sg.pts.length sg.pts.length], by rw [blk_set h3]; rfl, ?_, ?_⟩, by rw [ne _ (by omega) (by omega) (isTy.ne h.cat (by decide))]; exact h.cat,
    by rw [ne _ (by omega) (by omega) (isTy.ne h.chere (by decide))]; exact h.chere, by rw [ne _ (by omega) (by omega) (isTy.ne h.cbeg (by decide))]; exact h.cbeg,
    by rw [ne _ (by omega) (by omega) (isTy.ne h.copn (by decide))]; exact h.copn⟩, by simpa using hg.size, fun k hk hB _ h41 => ne k hk (by omega) h41⟩
  · exact own_of hp2 fun k _ ⟨c, f, hk⟩ => ne k (blk_lt hk) (ty_ne ⟨c, f, hk⟩ hv (by decide)) (isTy.ne hk (by decide))
  · have := own_of ho' (w' := w1.setCell ⟨B + 5, 0, none⟩ v') fun k _ hk => blk_set_ne _ _ (ty_ne hk h3 (by decide))
    simpa using this
  · refine SegCells.snoc hgB ?_ (SegCells.of (fun k hlo ⟨c, f, hk⟩ => ne k (blk_lt hk) (by omega) (isTy.ne hk (by decide))) hc)
    rw [ne g (blk_lt hgb) (by omega) (isTy.ne hgb (by decide))]; exact hgb
end
end Go.Proofs.YtoanpkfekhkaoaaGreatDoor
