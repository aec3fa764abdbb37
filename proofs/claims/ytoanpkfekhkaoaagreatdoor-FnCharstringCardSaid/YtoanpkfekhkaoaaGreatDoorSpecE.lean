/-
  The reference's loop: its frame, its state and the round's law in plain form (stepM).
-/
import Derived.Test.YtoanpkfekhkaoaaGreatDoorSpecD
namespace Go.Proofs.YtoanpkfekhkaoaaGreatDoor
open Go Go.RowKit

/-- The loop's body, out of the translation. -/
def firstLoop : Code → Option Code
  | .loop c => some c
  | .seq a b => match firstLoop a with
    | some c => some c
    | none => firstLoop b
  | .block _ c => firstLoop c
  | .scope c => firstLoop c
  | .cond _ a b => match firstLoop a with
    | some c => some c
    | none => firstLoop b
  | _ => none
noncomputable def body4 : Code := ((Tryz.f4.body.bind firstLoop).getD .skip)

set_option maxRecDepth 100000 in
/-- The frame at the loop's head. -/
def fr4 (B ob oo ol oc k : Nat) (u : Nat → Value) : Array Value := #[u 0, u 1, u 2, u 3, u 4, u 5, u 6, .pointer (some ⟨B + 1, 0, none⟩), u 8, u 9, .pointer (some ⟨B + 3, 0, none⟩), .pointer (some ⟨B + 5, 0, none⟩), u 12, .func (.func 7) #[] #[.pointer (some ⟨B + 6, 0, none⟩), .pointer (some ⟨B, 0, none⟩)], .pointer (some ⟨B + 7, 0, none⟩), .pointer (some ⟨B + 8, 0, none⟩), .pointer (some ⟨B + 9, 0, none⟩), .func (.func 9) #[] #[.pointer (some ⟨B + 3, 0, none⟩), .pointer (some ⟨B + 1, 0, none⟩)], .func (.func 10) #[] #[.pointer (some ⟨B + 9, 0, none⟩), .pointer (some ⟨B + 7, 0, none⟩), .pointer (some ⟨B + 8, 0, none⟩), .pointer (some ⟨B + 5, 0, none⟩)], .func (.func 11) #[] #[.pointer (some ⟨B + 7, 0, none⟩), .pointer (some ⟨B + 5, 0, none⟩)], .func (.func 12) #[] #[.pointer (some ⟨B + 7, 0, none⟩), .pointer (some ⟨B + 5, 0, none⟩)], u 21, u 22, u 23, u 24, u 25, u 26, u 27, u 28, u 29, u 30, u 31, u 32, u 33, u 34, u 35, u 36, u 37, u 38, u 39, u 40, u 41, u 42, u 43, u 44, u 45, u 46, .slice (some ⟨ob, oo, none⟩) ol oc, .int .i64 ol, .int .i64 k, u 50, u 51, u 52, u 53, u 54, u 55, u 56, u 57, u 58, u 59, u 60, u 61, u 62, u 63, u 64, u 65, u 66, u 67, u 68, u 69, u 70, u 71, u 72, u 73, u 74, u 75, u 76, u 77, u 78, u 79, u 80, u 81, u 82, u 83, u 84, u 85, u 86, u 87, u 88, u 89, u 90, u 91, u 92, u 93, u 94, u 95, u 96, u 97, u 98, u 99, u 100, u 101, u 102, u 103, u 104, u 105, u 106, u 107, u 108, u 109, u 110, u 111, u 112, u 113, u 114, u 115, u 116, u 117, u 118, u 119, u 120, u 121, u 122, u 123, u 124, u 125, u 126, u 127, u 128, u 129, u 130, u 131, u 132, u 133, u 134, u 135, u 136, u 137, u 138, u 139, u 140, u 141, u 142, u 143, u 144, u 145, u 146, u 147, u 148, u 149, u 150, u 151, u 152, u 153, u 154, u 155, u 156, u 157, u 158, u 159, u 160, u 161, u 162, u 163, u 164, u 165, u 166, u 167, u 168, u 169, u 170, u 171, u 172, u 173, u 174, u 175, u 176, u 177, u 178, u 179, u 180, u 181, u 182, u 183, u 184, u 185, u 186, u 187, u 188, u 189, u 190, u 191, u 192, u 193, u 194, u 195, u 196, u 197, u 198, u 199, u 200, u 201, u 202, u 203, u 204, u 205, u 206, u 207, u 208, u 209, u 210, u 211, u 212, u 213, u 214, u 215, u 216, u 217, u 218, u 219, u 220, u 221, u 222, u 223, u 224, u 225, u 226, u 227, u 228, u 229, u 230, u 231, u 232, u 233, u 234, u 235, u 236, u 237, u 238, u 239, u 240, u 241, u 242, u 243, u 244, u 245, u 246, u 247, u 248, u 249, u 250, u 251, u 252, u 253, u 254, u 255, u 256, u 257, u 258, u 259, u 260, u 261, u 262, u 263, u 264, u 265, u 266, u 267, u 268, u 269, u 270, u 271, u 272, u 273, u 274, u 275, u 276, u 277, u 278, u 279, u 280, u 281, u 282, u 283, u 284, u 285, u 286, u 287, u 288, u 289, u 290, u 291, u 292, u 293, u 294, u 295, u 296, u 297, u 298, u 299, u 300, u 301, u 302, u 303, u 304, u 305, u 306, u 307, u 308, u 309, u 310, u 311, u 312, u 313, u 314, u 315, u 316, u 317, u 318, u 319, u 320, u 321, u 322, u 323, u 324, u 325, u 326, u 327, u 328, u 329, u 330, u 331, u 332, u 333, u 334, u 335, u 336, u 337, u 338, u 339]
section
variable {B : Nat} {ways : Int} {w0 : World} {s : SS} {w : World}

/-- An append of one byte to 'out' (the byte in a new block); the store back stands next. -/
theorem wp_app_out {nv : Value} {b : Int} {a : Nat} {vo : Value} (hS : SpecSt B nv ways w0 s w) (hvc : w.cell? ⟨B + 3, 0, none⟩ = some vo)
    (hlen : (encs (wideOf ways) s.toks).length ≤ 1000000) (hab : w.heap[a]? = some (.cells #[.int .u8 b] 5 (0, 0)))
    {ops : Array Oper} {rest : List Oper} {o : Oper} {act : Act} {Q : Exit → Act → World → Prop} (hg : o.guard = none) (x y : Operand)
    (hop : o.op = Op.call { callee := Callee.builtin Builtin.append, args := #[x, y], argTypes := #[22, 22] })
    (hx : act.eval x = vo) (hy : act.eval y = .slice (some ⟨a, 0, none⟩) 1 1)
    (hK : ∀ g' n' c' w1, SpecSt B nv ways w0 { s with toks := s.toks ++ [.op b] } (w1.setCell ⟨B + 3, 0, none⟩ (.slice (some ⟨g', 0, none⟩) n' c')) →
      SFrm B w (w1.setCell ⟨B + 3, 0, none⟩ (.slice (some ⟨g', 0, none⟩) n' c')) →
      w1.cell? ⟨B + 3, 0, none⟩ = some vo → w1.frozen? ⟨B + 3, 0, none⟩ = false → wpList Tryz.prog ops Q rest (act.put o.dst (.slice (some ⟨g', 0, none⟩) n' c')) w1) :
    wpList Tryz.prog ops Q (o :: rest) act w := by
  obtain ⟨i0, hi, hz0, hz1, hz2⟩ := info_parts info5
  obtain ⟨v, hp1, hp2⟩ := hS.out
  have hbig := hS.big
  obtain rfl : v = vo := by rw [blk_cell hp1] at hvc; simpa using hvc
  refine wpList_append_own _ hg x y 22 hop B 5 i0 (.int .u8 0) 1 1 und22 hi hz0 hz1 hz2 rfl (by decide) v _ _ hx hp2 ⟨a, 0, none⟩ 1 1 [.int .u8 b] hy rfl ?_ ?_ (by unfold maxLen; omega) (by omega) (by omega) ?_
  · intro j u hj
    rw [Addr.add_lit, Nat.zero_add, blk_cell hab]
    simpa using hj
  · intro u hu
    simp at hu
    subst hu; rfl
  · intro v' w1 hown hgrow _
    have e0 : encs (wideOf ways) (s.toks ++ [.op b]) = encs (wideOf ways) s.toks ++ [b] := by rw [encs_append, encs_op]
    have hown' : w1.ownsRow B 5 1 v' (encs (wideOf ways) (s.toks ++ [.op b])).length (u8s (encs (wideOf ways) (s.toks ++ [.op b]))) := by
      rw [e0, u8s_append, List.length_append]; exact hown
    obtain ⟨h1, h2⟩ := hS.setOut hp1 hp2 hgrow hown'
    have h3 : w1.heap[B + 3]? = some (.cells #[v] 22 (0, 0)) := by
      rw [hgrow.block _ (by omega) fun e => own_ne hp2 (isTy.ne hp1 (by decide)) e.symm]; exact hp1
    rcases hown.2 with ⟨_, hh⟩ | ⟨g', cap, cur, rfl, _⟩
    · omega
    · exact hK _ _ _ w1 h1 h2 (by rw [blk_cell h3]; rfl) (blk_free h3 0)

theorem SpecSt.outCell {nv : Value} (hS : SpecSt B nv ways w0 s w) : ∃ vo, w.cell? ⟨B + 3, 0, none⟩ = some vo := by
  obtain ⟨v, hp1, -⟩ := hS.out; exact ⟨v, by rw [blk_cell hp1]; rfl⟩
theorem SpecSt.pathCell {nv : Value} (hS : SpecSt B nv ways w0 s w) : ∃ vo, w.cell? ⟨B + 5, 0, none⟩ = some vo := by
  obtain ⟨v, xs, hp1, -⟩ := hS.pth; exact ⟨v, by rw [blk_cell hp1]; rfl⟩

def closeS (s : SS) : SS := if s.opn = true ∧ s.here ≠ s.beg then { s with path := s.path ++ [⟨1, [s.beg]⟩], here := s.beg } else s
def lineS (dx dy : Int) (s : SS) : SS := { s with here := (s.here.1 + dx, s.here.2 + dy), path := s.path ++ [⟨1, [(s.here.1 + dx, s.here.2 + dy)]⟩] }
def curveS (a b c d e f : Int) (s : SS) : SS := { s with here := (s.here.1 + a + c + e, s.here.2 + b + d + f), path := s.path ++ [⟨3, [(s.here.1 + a, s.here.2 + b), (s.here.1 + a + c, s.here.2 + b + d), (s.here.1 + a + c + e, s.here.2 + b + d + f)]⟩] }
def putS (l : List Int) (s : SS) : SS := { s with toks := s.toks ++ l.map Tok.num }
def opS (b : Int) (s : SS) : SS := { s with toks := s.toks ++ [Tok.op b] }
def moveS (p : Int × Int) (s : SS) : SS := { s with here := p, beg := p, opn := true, path := s.path ++ [⟨0, [p]⟩] }

theorem tl_put {b : Bool} {s : SS} {n : Nat} (l : List Int) (h : (encs b s.toks).length ≤ n) : (encs b (putS l s).toks).length ≤ n + 3 * l.length := by
  have h0 : ∀ l : List Int, (encs b (l.map Tok.num)).length ≤ 3 * l.length := by
    intro l
    induction l with
    | nil => simp [encs]
    | cons a l ih => simp only [encs, List.map_cons, List.flatMap_cons, List.length_append, List.length_cons, encT] at ih ⊢; have := enc_len b a; omega
  have := h0 l
  simp only [putS, encs_append, List.length_append]; omega
theorem tl_op {b : Bool} {s : SS} {n : Nat} (c : Int) (h : (encs b s.toks).length ≤ n) : (encs b (opS c s).toks).length ≤ n + 1 := by
  simp only [opS, encs_append, List.length_append, encs_op, List.length_cons, List.length_nil]; omega
theorem closeS_path (s : SS) : (closeS s).path.length ≤ s.path.length + 1 := by
  unfold closeS; split <;> simp
theorem closeS_toks (s : SS) : (closeS s).toks = s.toks := by unfold closeS; split <;> rfl
def twoOf (ways : Int) : Bool := bits BinOp.and IntKind.i64 ways 2 != 0
/-- One step of spec.Charstring, by the operator's number (0 to 11, behind the turn to a move where no contour is open). -/
def stepM (zs : List Int) (two : Bool) (m : Nat) (s : SS) : SS :=
  let a := nx zs (s.at_ + 1)
  let b := nx zs (s.at_ + 1 + 1)
  let c := nx zs (s.at_ + 1 + 1 + 1)
  let d := nx zs (s.at_ + 1 + 1 + 1 + 1)
  let e := nx zs (s.at_ + 1 + 1 + 1 + 1 + 1)
  let f := nx zs (s.at_ + 1 + 1 + 1 + 1 + 1 + 1)
  let s1 : SS := { s with at_ := s.at_ + 1 + 1 + 1 + 1 + 1 + 1 }
  let s2 : SS := { closeS s1 with here := s1.here }
  match m with
  | 0 => moveS (s1.here.1 + a, s1.here.2 + b) (opS 21 (putS [a, b] s2))
  | 1 => moveS (s1.here.1 + a, s1.here.2) (opS 22 (putS [a] s2))
  | 2 => moveS (s1.here.1, s1.here.2 + b) (opS 4 (putS [b] s2))
  | 3 => lineS c d (lineS a b (opS 5 (putS [a, b, c, d] s1)))
  | 4 => lineS c 0 (lineS 0 b (lineS a 0 (opS 6 (putS [a, b, c] s1))))
  | 5 => lineS 0 c (lineS b 0 (lineS 0 a (opS 7 (putS [a, b, c] s1))))
  | 6 => curveS a b c d e f (opS 8 (putS [a, b, c, d, e, f] s1))
  | 7 => lineS b a (curveS a b c d e f (opS 24 (putS [a, b, c, d, e, f, b, a] s1)))
  | 8 => curveS a b c d e f (lineS b a (opS 25 (putS [b, a, a, b, c, d, e, f] s1)))
  | 9 => if two then curveS e a b c 0 d (opS 26 (putS [e, a, b, c, d] s1)) else curveS a e b c d 0 (opS 27 (putS [e, a, b, c, d] s1))
  | 10 => curveS 0 a b c d e (opS 30 (putS [a, b, c, d, e] s1))
  | _ => curveS a 0 b c e d (opS 31 (putS [a, b, c, d, e] s1))

/-- What the frame holds that the loop leaves alone, and the counter. -/
structure Fr4 (B ob oo ol oc k : Nat) (t : Array Value) : Prop where
  size : t.size = 340
  s7 : t[7]? = some (.pointer (some ⟨B + 1, 0, none⟩))
  s10 : t[10]? = some (.pointer (some ⟨B + 3, 0, none⟩))
  s11 : t[11]? = some (.pointer (some ⟨B + 5, 0, none⟩))
  s13 : t[13]? = some (.func (.func 7) #[] #[.pointer (some ⟨B + 6, 0, none⟩), .pointer (some ⟨B, 0, none⟩)])
  s14 : t[14]? = some (.pointer (some ⟨B + 7, 0, none⟩))
  s15 : t[15]? = some (.pointer (some ⟨B + 8, 0, none⟩))
  s16 : t[16]? = some (.pointer (some ⟨B + 9, 0, none⟩))
  s17 : t[17]? = some (.func (.func 9) #[] #[.pointer (some ⟨B + 3, 0, none⟩), .pointer (some ⟨B + 1, 0, none⟩)])
  s18 : t[18]? = some (.func (.func 10) #[] #[.pointer (some ⟨B + 9, 0, none⟩), .pointer (some ⟨B + 7, 0, none⟩), .pointer (some ⟨B + 8, 0, none⟩), .pointer (some ⟨B + 5, 0, none⟩)])
  s19 : t[19]? = some (.func (.func 11) #[] #[.pointer (some ⟨B + 7, 0, none⟩), .pointer (some ⟨B + 5, 0, none⟩)])
  s20 : t[20]? = some (.func (.func 12) #[] #[.pointer (some ⟨B + 7, 0, none⟩), .pointer (some ⟨B + 5, 0, none⟩)])
  s47 : t[47]? = some (.slice (some ⟨ob, oo, none⟩) ol oc)
  s48 : t[48]? = some (.int .i64 ol)
  s49 : t[49]? = some (.int .i64 k)
theorem closed_st {nv : Value} (hS : SpecSt B nv ways w0 s w) (hlen : s.path.length ≤ 100000) :
    Calls Tryz.prog 10 #[.pointer (some ⟨B + 9, 0, none⟩), .pointer (some ⟨B + 7, 0, none⟩), .pointer (some ⟨B + 8, 0, none⟩), .pointer (some ⟨B + 5, 0, none⟩)] w
      (StepTo B nv ways w0 (closeS s) w (.tuple #[])) := by
  unfold closeS
  by_cases ho : s.opn = true
  · by_cases hh : s.here = s.beg
    · rw [if_neg (fun h => h.2 hh)]; exact closed_t hS ho hh
    · rw [if_pos ⟨ho, hh⟩]; exact closed_y hS ho hh hlen
  · rw [if_neg (fun h => ho h.1)]; exact closed_n hS (by simpa using ho)
end
end Go.Proofs.YtoanpkfekhkaoaaGreatDoor
