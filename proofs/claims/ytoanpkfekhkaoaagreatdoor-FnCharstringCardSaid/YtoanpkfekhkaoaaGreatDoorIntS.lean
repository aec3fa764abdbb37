/-
  What the bytes mean: the plain law. No program in sight but for the operators' contracts (OpOk).
-/
import Derived.Test.YtoanpkfekhkaoaaGreatDoorIntD
import Derived.Test.YtoanpkfekhkaoaaGreatDoorIntE
import Derived.Test.YtoanpkfekhkaoaaGreatDoorIntF
import Derived.Test.YtoanpkfekhkaoaaGreatDoorSpecR
namespace Go.Proofs.YtoanpkfekhkaoaaGreatDoor
open Go Go.RowKit

def tabF (b : Int) : Option Nat :=
  if b = 4 then some 34 else if b = 5 then some 35 else if b = 6 then some 36 else if b = 7 then some 37 else if b = 8 then some 38 else if b = 14 then some 41 else if b = 21 then some 43 else if b = 22 then some 44
  else if b = 24 then some 45 else if b = 25 then some 46 else if b = 26 then some 47 else if b = 27 then some 48 else if b = 30 then some 50 else if b = 31 then some 51 else none
def OpOk (F n : Nat) (s s' : PS) : Prop := ∀ Bb lo ao c w, PSt Bb lo (.slice ao n c) s w → Calls Tryz.prog F #[.pointer (some ⟨Bb, 514, none⟩)] w (PTo Bb lo (.slice ao n c) s' w .nilIface)
inductive Stp (n : Nat) : Tok → PS → PS → Prop
  | num (v : Int) (s : PS) : -499 ≤ v ∧ v ≤ 499 → s.stk.length < 48 → Stp n (.num v) s { s with stk := s.stk ++ [v] }
  | op (b : Int) (F : Nat) (s s' : PS) : tabF b = some F → OpOk F n s s' → Stp n (.op b) s { s' with stk := [] }
inductive Runs (wd : Bool) : List Tok → PS → PS → Prop
  | nil (s : PS) : Runs wd [] s s
  | cons (t : Tok) (ts : List Tok) (s s1 s2 : PS) : Stp (encs wd ts).length t s s1 → Runs wd ts s1 s2 → Runs wd (t :: ts) s s2
def RunsA (wd : Bool) (pre : List Tok) (s s1 : PS) : Prop := ∀ rest s2, Runs wd rest s1 s2 → Runs wd (pre ++ rest) s s2
theorem RunsA.refl (wd : Bool) (s : PS) : RunsA wd [] s s := fun _ _ h => h
theorem RunsA.trans {wd : Bool} {a b : List Tok} {s s1 s2 : PS} (h : RunsA wd a s s1) (k : RunsA wd b s1 s2) : RunsA wd (a ++ b) s s2 := fun rest s3 hr => by
  rw [List.append_assoc]; exact h _ _ (k _ _ hr)
theorem RunsA.nums {wd : Bool} : ∀ (vs : List Int) (s : PS), (∀ v ∈ vs, -499 ≤ v ∧ v ≤ 499) → s.stk.length + vs.length ≤ 48 → RunsA wd (vs.map Tok.num) s { s with stk := s.stk ++ vs }
  | [], s, _, _ => by
    have e : ({ s with stk := s.stk ++ [] } : PS) = s := by simp
    rw [e]; exact RunsA.refl wd s
  | v :: vs, s, hv, hl => fun rest s2 hr => by
    simp only [List.length_cons] at hl
    refine .cons _ _ _ _ _ (.num v s (hv v (by simp)) (by omega)) ?_
    refine RunsA.nums vs _ (fun u hu => hv u (by simp [hu])) (by simp; omega) rest s2 ?_
    simp only [List.append_assoc, List.singleton_append]
    exact hr
theorem RunsA.op {wd : Bool} {b : Int} {F : Nat} (vs : List Int) {s s' : PS} (hv : ∀ v ∈ vs, -499 ≤ v ∧ v ≤ 499) (hl : s.stk.length + vs.length ≤ 48) (ht : tabF b = some F) (ho : ∀ n, OpOk F n { s with stk := s.stk ++ vs } s') :
    RunsA wd (vs.map Tok.num ++ [.op b]) s { s' with stk := [] } :=
  (RunsA.nums vs s hv hl).trans fun rest s2 hr => .cons _ _ _ _ _ (.op b F _ s' ht (ho _)) hr

/-! ### The operators -/
theorem ok21 {n : Nat} {s : PS} (hB : PB s) {a b : Int} (ha : -499 ≤ a ∧ a ≤ 499) (hb : -499 ≤ b ∧ b ≤ 499) (h : s.stk = [a, b] ∨ s.seen = false ∧ ∃ v, s.stk = v :: [a, b]) : OpOk 43 n s (mvP a b { s with seen := true, stk := [a, b] }) :=
  fun _ _ _ _ _ hS => op21_st hS hB a b (by omega) (by omega) h
theorem ok22 {n : Nat} {s : PS} (hB : PB s) {a : Int} (ha : -499 ≤ a ∧ a ≤ 499) (h : s.stk = [a] ∨ s.seen = false ∧ ∃ v, s.stk = v :: [a]) : OpOk 44 n s (mvP a 0 { s with seen := true, stk := [a] }) :=
  fun _ _ _ _ _ hS => op22_st hS hB a (by omega) h
theorem ok4 {n : Nat} {s : PS} (hB : PB s) {a : Int} (ha : -499 ≤ a ∧ a ≤ 499) (h : s.stk = [a] ∨ s.seen = false ∧ ∃ v, s.stk = v :: [a]) : OpOk 34 n s (mvP 0 a { s with seen := true, stk := [a] }) :=
  fun _ _ _ _ _ hS => op4_st hS hB a (by omega) h
theorem ok14 {s : PS} (hB : PB s) (h : s.stk = [] ∨ s.seen = false ∧ ∃ v, s.stk = v :: []) : OpOk 41 0 s { clP { s with seen := true, stk := [] } with ended := true } :=
  fun _ _ _ _ _ hS => op14_st hS hB h
section
variable {n : Nat} {s : PS} {a b c d e f : Int} (hB : PB s) (hsn : s.seen = true) (ha : -499 ≤ a ∧ a ≤ 499) (hb : -499 ≤ b ∧ b ≤ 499) (hc : -499 ≤ c ∧ c ≤ 499) (hd : -499 ≤ d ∧ d ≤ 499) (he : -499 ≤ e ∧ e ≤ 499) (hf : -499 ≤ f ∧ f ≤ 499)
include hB hsn ha hb hc
theorem ok6 (h : s.stk = [a, b, c]) : OpOk 36 n s (lnP c 0 (lnP 0 b (lnP a 0 s))) :=
  fun _ _ _ _ _ hS => pass6 ((op6_st0 hS hB hsn a b c (by omega) (by omega) (by omega) h).mono fun _ _ hh => ⟨hh.1, hh⟩)
theorem ok7 (h : s.stk = [a, b, c]) : OpOk 37 n s (lnP 0 c (lnP b 0 (lnP 0 a s))) :=
  fun _ _ _ _ _ hS => pass7 ((op7_st0 hS hB hsn a b c (by omega) (by omega) (by omega) h).mono fun _ _ hh => ⟨hh.1, hh⟩)
include hd
theorem ok5 (h : s.stk = [a, b, c, d]) : OpOk 35 n s (lnP c d (lnP a b s)) :=
  fun _ _ _ _ _ hS => op5_st hS hB hsn a b c d (by omega) (by omega) (by omega) (by omega) h
include he
theorem ok26 (h : s.stk = [e, a, b, c, d]) : OpOk 47 n s (cvP 0 a b c 0 d { s with x := s.x + e }) :=
  fun _ _ _ _ _ hS => pass47 ((op26_st0 hS hB hsn a b c d e (by omega) (by omega) (by omega) (by omega) (by omega) h).mono fun _ _ hh => ⟨hh.1, hh⟩)
theorem ok27 (h : s.stk = [e, a, b, c, d]) : OpOk 48 n s (cvP a 0 b c d 0 { s with y := s.y + e }) :=
  fun _ _ _ _ _ hS => pass48 ((op27_st0 hS hB hsn a b c d e (by omega) (by omega) (by omega) (by omega) (by omega) h).mono fun _ _ hh => ⟨hh.1, hh⟩)
theorem ok30 (h : s.stk = [a, b, c, d, e]) : OpOk 50 n s (cvP 0 a b c d e s) :=
  fun _ _ _ _ _ hS => pass50 ((op30_st0 hS hB hsn a b c d e (by omega) (by omega) (by omega) (by omega) (by omega) h).mono fun _ _ hh => ⟨hh.1, hh⟩)
theorem ok31 (h : s.stk = [a, b, c, d, e]) : OpOk 51 n s (cvP a 0 b c e d s) :=
  fun _ _ _ _ _ hS => pass51 ((op31_st0 hS hB hsn a b c d e (by omega) (by omega) (by omega) (by omega) (by omega) h).mono fun _ _ hh => ⟨hh.1, hh⟩)
include hf
theorem ok8 (h : s.stk = [a, b, c, d, e, f]) : OpOk 38 n s (cvP a b c d e f s) :=
  fun _ _ _ _ _ hS => op8_st hS hB hsn a b c d e f (by omega) (by omega) (by omega) (by omega) (by omega) (by omega) h
theorem ok24 (h : s.stk = [a, b, c, d, e, f, b, a]) : OpOk 45 n s (lnP b a (cvP a b c d e f s)) :=
  fun _ _ _ _ _ hS => op24_st hS hB hsn a b c d e f (by omega) (by omega) (by omega) (by omega) (by omega) (by omega) h
theorem ok25 (h : s.stk = [b, a, a, b, c, d, e, f]) : OpOk 46 n s (cvP a b c d e f (lnP b a s)) :=
  fun _ _ _ _ _ hS => op25_st hS hB hsn b a c d e f (by omega) (by omega) (by omega) (by omega) (by omega) (by omega) h
end

/-! ### The simulation -/
structure Sim (wd : Bool) (s : SS) (p : PS) : Prop where
  x : p.x = s.here.1
  y : p.y = s.here.2
  segs : p.segs = s.path
  en : p.ended = false
  o : s.opn = true → p.seen = true ∧ p.stk = [] ∧ p.fx = s.beg.1 ∧ p.fy = s.beg.2
  n : s.opn = false → p.seen = false ∧ p.stk = (if wd then [77] else []) ∧ p.fx = p.x ∧ p.fy = p.y

theorem clP_path {wd : Bool} {s : SS} {p : PS} (h : Sim wd s p) : (clP p).segs = (closeS s).path := by
  unfold clP closeS
  dsimp only
  rw [h.x, h.y, h.segs]
  cases ho : s.opn with
  | true =>
    obtain ⟨_, _, h3, h4⟩ := h.o ho
    rw [h3, h4]
    by_cases hh : s.here = s.beg
    · rw [if_neg (by rw [hh]; rintro (h | h) <;> exact h rfl), if_neg (fun h => h.2 hh)]
    · rw [if_pos ?_, if_pos ⟨rfl, hh⟩]
      by_cases h1 : s.here.1 = s.beg.1
      · exact .inr fun h2 => hh (Prod.ext h1 h2)
      · exact .inl h1
  | false =>
    obtain ⟨_, _, h3, h4⟩ := h.n ho
    rw [h3, h4, h.x, h.y, if_neg (by rintro (h | h) <;> exact h rfl), if_neg (fun h => by simp at h)]

theorem step_sim {wd wide : Bool} {s : SS} {p : PS} (zs : List Int) (two : Bool) (m : Nat) (h : Sim wd s p) (hB : PB p) (hm : if s.opn = true then m < 12 else m < 3) :
    ∃ tks p', (stepM zs two m s).toks = s.toks ++ tks ∧ RunsA wide tks p p' ∧ Sim wd (stepM zs two m s) p' := by
  have hcl := clP_path h
  have hct : ∀ t : SS, (closeS t).toks = t.toks := fun t => by unfold closeS; split <;> rfl
  have ba := nx_bd zs (s.at_ + 1)
  have bb := nx_bd zs (s.at_ + 1 + 1)
  have bc := nx_bd zs (s.at_ + 1 + 1 + 1)
  have bd := nx_bd zs (s.at_ + 1 + 1 + 1 + 1)
  have be := nx_bd zs (s.at_ + 1 + 1 + 1 + 1 + 1)
  have bf := nx_bd zs (s.at_ + 1 + 1 + 1 + 1 + 1 + 1)
  unfold stepM
  generalize nx zs (s.at_ + 1) = a at *
  generalize nx zs (s.at_ + 1 + 1) = b at *
  generalize nx zs (s.at_ + 1 + 1 + 1) = c at *
  generalize nx zs (s.at_ + 1 + 1 + 1 + 1) = d at *
  generalize nx zs (s.at_ + 1 + 1 + 1 + 1 + 1) = e at *
  generalize nx zs (s.at_ + 1 + 1 + 1 + 1 + 1 + 1) = f at *
  dsimp only
  have hcp : (closeS { s with at_ := s.at_ + 1 + 1 + 1 + 1 + 1 + 1 }).path = (closeS s).path := by unfold closeS; dsimp only; split <;> rfl
  have hct' := hct { s with at_ := s.at_ + 1 + 1 + 1 + 1 + 1 + 1 }
  dsimp only at hct'
  by_cases hm3 : m < 3
  · have hstk : ∀ vs : List Int, p.stk ++ vs = vs ∨ p.seen = false ∧ ∃ v, p.stk ++ vs = v :: vs := by
      intro vs
      cases ho : s.opn with
      | true => left; rw [(h.o ho).2.1]; rfl
      | false =>
        rw [(h.n ho).2.1]
        cases wd with
        | true => right; exact ⟨(h.n ho).1, 77, rfl⟩
        | false => left; rfl
    have hsl : p.stk.length ≤ 1 := by
      cases ho : s.opn with
      | true => rw [(h.o ho).2.1]; simp
      | false => rw [(h.n ho).2.1]; split <;> simp
    obtain ⟨px, py, psg, pen, -, -⟩ := h
    match m, hm3 with
    | 0, _ =>
      refine ⟨[a, b].map Tok.num ++ [.op 21], _, ?_, RunsA.op [a, b] (by simp; omega) (by simp; omega) (F := 43) rfl fun n => ok21 (s := { p with stk := p.stk ++ [a, b] }) ⟨hB.x, hB.y, hB.n⟩ ba bb (hstk [a, b]), ?_⟩
      · simp only [moveS, opS, putS, hct', List.append_assoc]
      · refine ⟨?_, ?_, ?_, pen, fun _ => ⟨rfl, rfl, ?_, ?_⟩, fun h => by cases h⟩ <;> simp only [mvP, moveS, opS, putS, px, py]
        rw [hcp, ← hcl]; simp only [clP, px, py]
    | 1, _ =>
      refine ⟨[a].map Tok.num ++ [.op 22], _, ?_, RunsA.op [a] (by simp; omega) (by simp; omega) (F := 44) rfl fun n => ok22 (s := { p with stk := p.stk ++ [a] }) ⟨hB.x, hB.y, hB.n⟩ ba (hstk [a]), ?_⟩
      · simp only [moveS, opS, putS, hct', List.append_assoc]
      · refine ⟨?_, ?_, ?_, pen, fun _ => ⟨rfl, rfl, ?_, ?_⟩, fun h => by cases h⟩ <;> simp only [mvP, moveS, opS, putS, px, py, Int.add_zero]
        rw [hcp, ← hcl]; simp only [clP, px, py]
    | 2, _ =>
      refine ⟨[b].map Tok.num ++ [.op 4], _, ?_, RunsA.op [b] (by simp; omega) (by simp; omega) (F := 34) rfl fun n => ok4 (s := { p with stk := p.stk ++ [b] }) ⟨hB.x, hB.y, hB.n⟩ bb (hstk [b]), ?_⟩
      · simp only [moveS, opS, putS, hct', List.append_assoc]
      · refine ⟨?_, ?_, ?_, pen, fun _ => ⟨rfl, rfl, ?_, ?_⟩, fun h => by cases h⟩ <;> simp only [mvP, moveS, opS, putS, px, py, Int.add_zero]
        rw [hcp, ← hcl]; simp only [clP, px, py]
  · have ho : s.opn = true := by
      cases ho : s.opn with
      | true => rfl
      | false => rw [ho] at hm; exact absurd hm (by simpa using hm3)
    rw [if_pos ho] at hm
    obtain ⟨hsn, hsk, hfx, hfy⟩ := h.o ho
    obtain ⟨px, py, psg, pen, -, -⟩ := h
    have hB' : ∀ vs : List Int, PB { p with stk := p.stk ++ vs } := fun vs => ⟨hB.x, hB.y, hB.n⟩
    have hk : ∀ vs : List Int, p.stk ++ vs = vs := fun vs => by rw [hsk]; rfl
    have hl0 : p.stk.length = 0 := by rw [hsk]; rfl
    match m, hm, hm3 with
    | 3, _, _ =>
      refine ⟨[a, b, c, d].map Tok.num ++ [.op 5], _, ?_, RunsA.op [a, b, c, d] (by simp; omega) (by simp; omega) (F := 35) rfl fun n => ok5 (hB' _) hsn ba bb bc bd (hk _), ?_⟩
      · simp only [lineS, opS, putS, List.append_assoc]
      · refine ⟨?_, ?_, ?_, pen, fun _ => ⟨hsn, rfl, hfx, hfy⟩, fun h => by simp only [lineS, opS, putS, ho] at h; cases h⟩ <;> simp only [lnP, lineS, opS, putS, px, py, psg]
    | 4, _, _ =>
      refine ⟨[a, b, c].map Tok.num ++ [.op 6], _, ?_, RunsA.op [a, b, c] (by simp; omega) (by simp; omega) (F := 36) rfl fun n => ok6 (hB' _) hsn ba bb bc (hk _), ?_⟩
      · simp only [lineS, opS, putS, List.append_assoc]
      · refine ⟨?_, ?_, ?_, pen, fun _ => ⟨hsn, rfl, hfx, hfy⟩, fun h => by simp only [lineS, opS, putS, ho] at h; cases h⟩ <;> simp only [lnP, lineS, opS, putS, px, py, psg]
    | 5, _, _ =>
      refine ⟨[a, b, c].map Tok.num ++ [.op 7], _, ?_, RunsA.op [a, b, c] (by simp; omega) (by simp; omega) (F := 37) rfl fun n => ok7 (hB' _) hsn ba bb bc (hk _), ?_⟩
      · simp only [lineS, opS, putS, List.append_assoc]
      · refine ⟨?_, ?_, ?_, pen, fun _ => ⟨hsn, rfl, hfx, hfy⟩, fun h => by simp only [lineS, opS, putS, ho] at h; cases h⟩ <;> simp only [lnP, lineS, opS, putS, px, py, psg]
    | 6, _, _ =>
      refine ⟨[a, b, c, d, e, f].map Tok.num ++ [.op 8], _, ?_, RunsA.op [a, b, c, d, e, f] (by simp; omega) (by simp; omega) (F := 38) rfl fun n => ok8 (hB' _) hsn ba bb bc bd be bf (hk _), ?_⟩
      · simp only [curveS, opS, putS, List.append_assoc]
      · refine ⟨?_, ?_, ?_, pen, fun _ => ⟨hsn, rfl, hfx, hfy⟩, fun h => by simp only [curveS, opS, putS, ho] at h; cases h⟩ <;> simp only [cvP, curveS, opS, putS, px, py, psg]
    | 7, _, _ =>
      refine ⟨[a, b, c, d, e, f, b, a].map Tok.num ++ [.op 24], _, ?_, RunsA.op [a, b, c, d, e, f, b, a] (by simp; omega) (by simp; omega) (F := 45) rfl fun n => ok24 (hB' _) hsn ba bb bc bd be bf (hk _), ?_⟩
      · simp only [lineS, curveS, opS, putS, List.append_assoc]
      · refine ⟨?_, ?_, ?_, pen, fun _ => ⟨hsn, rfl, hfx, hfy⟩, fun h => by simp only [lineS, curveS, opS, putS, ho] at h; cases h⟩ <;> simp only [lnP, cvP, lineS, curveS, opS, putS, px, py, psg]
    | 8, _, _ =>
      refine ⟨[b, a, a, b, c, d, e, f].map Tok.num ++ [.op 25], _, ?_, RunsA.op [b, a, a, b, c, d, e, f] (by simp; omega) (by simp; omega) (F := 46) rfl fun n => ok25 (hB' _) hsn ba bb bc bd be bf (hk _), ?_⟩
      · simp only [lineS, curveS, opS, putS, List.append_assoc]
      · refine ⟨?_, ?_, ?_, pen, fun _ => ⟨hsn, rfl, hfx, hfy⟩, fun h => by simp only [lineS, curveS, opS, putS, ho] at h; cases h⟩ <;> simp only [lnP, cvP, lineS, curveS, opS, putS, px, py, psg]
    | 9, _, _ =>
      cases two with
      | true =>
        refine ⟨[e, a, b, c, d].map Tok.num ++ [.op 26], _, ?_, RunsA.op [e, a, b, c, d] (by simp; omega) (by simp; omega) (F := 47) rfl fun n => ok26 (hB' _) hsn ba bb bc bd be (hk _), ?_⟩
        · simp only [curveS, opS, putS, List.append_assoc, if_true]
        · refine ⟨?_, ?_, ?_, pen, fun _ => ⟨hsn, rfl, hfx, hfy⟩, fun h => by simp only [curveS, opS, putS, ho, if_true] at h; cases h⟩ <;> simp only [cvP, curveS, opS, putS, px, py, psg, if_true, Int.add_zero]
      | false =>
        refine ⟨[e, a, b, c, d].map Tok.num ++ [.op 27], _, ?_, RunsA.op [e, a, b, c, d] (by simp; omega) (by simp; omega) (F := 48) rfl fun n => ok27 (hB' _) hsn ba bb bc bd be (hk _), ?_⟩
        · simp only [curveS, opS, putS, List.append_assoc, Bool.false_eq_true, if_false]
        · refine ⟨?_, ?_, ?_, pen, fun _ => ⟨hsn, rfl, hfx, hfy⟩, fun h => by simp only [curveS, opS, putS, ho, Bool.false_eq_true, if_false] at h; cases h⟩ <;> simp only [cvP, curveS, opS, putS, px, py, psg, Bool.false_eq_true, if_false, Int.add_zero]
    | 10, _, _ =>
      refine ⟨[a, b, c, d, e].map Tok.num ++ [.op 30], _, ?_, RunsA.op [a, b, c, d, e] (by simp; omega) (by simp; omega) (F := 50) rfl fun n => ok30 (hB' _) hsn ba bb bc bd be (hk _), ?_⟩
      · simp only [curveS, opS, putS, List.append_assoc]
      · refine ⟨?_, ?_, ?_, pen, fun _ => ⟨hsn, rfl, hfx, hfy⟩, fun h => by simp only [curveS, opS, putS, ho] at h; cases h⟩ <;> simp only [cvP, curveS, opS, putS, px, py, psg, Int.add_zero]
    | 11, _, _ =>
      refine ⟨[a, b, c, d, e].map Tok.num ++ [.op 31], _, ?_, RunsA.op [a, b, c, d, e] (by simp; omega) (by simp; omega) (F := 51) rfl fun n => ok31 (hB' _) hsn ba bb bc bd be (hk _), ?_⟩
      · simp only [curveS, opS, putS, List.append_assoc]
      · refine ⟨?_, ?_, ?_, pen, fun _ => ⟨hsn, rfl, hfx, hfy⟩, fun h => by simp only [curveS, opS, putS, ho] at h; cases h⟩ <;> simp only [cvP, curveS, opS, putS, px, py, psg, Int.add_zero]
    | m + 12, hm, _ => omega

theorem effM_lt (s : SS) (o : Int) : if s.opn = true then effM s o < 12 else effM s o < 3 := by
  unfold effM
  split <;> omega

theorem run_sim {wd wide : Bool} (zs : List Int) (two : Bool) : ∀ (os : List Int) (j : Nat) (s : SS) (p : PS), Sim wd s p → Bd j wide s → j + os.length ≤ 40 →
    ∃ tks p', (runS zs two os s).toks = s.toks ++ tks ∧ RunsA wide tks p p' ∧ Sim wd (runS zs two os s) p' ∧ PB p'
  | [], j, s, p, h, hb, hj => ⟨[], p, by simp [runS], RunsA.refl _ _, h, by
      have := hb.hx; have := hb.hy; have := hb.lp
      simp only [List.length_nil] at hj
      exact ⟨by rw [h.x]; omega, by rw [h.y]; omega, by rw [h.segs]; omega⟩⟩
  | o :: os, j, s, p, h, hb, hj => by
    simp only [List.length_cons] at hj
    have hPB : PB p := by
      have := hb.hx; have := hb.hy; have := hb.lp
      exact ⟨by rw [h.x]; omega, by rw [h.y]; omega, by rw [h.segs]; omega⟩
    obtain ⟨t1, p1, e1, r1, s1⟩ := step_sim (wide := wide) zs two (effM s o) h hPB (effM_lt s o)
    obtain ⟨t2, p2, e2, r2, s2, b2⟩ := run_sim zs two os (j + 1) _ p1 s1 (hb.step zs two _) (by omega)
    exact ⟨t1 ++ t2, p2, by rw [runS, e2, e1, List.append_assoc], r1.trans r2, s2, b2⟩

/-- Where the interpreter begins. -/
def initP : PS := ⟨[], 0, 0, 0, 0, false, false, []⟩
theorem all_sim (wd wide : Bool) (zs : List Int) (two : Bool) (os : List Int) (ho : os.length ≤ 40) :
    ∃ fin, Runs wide ((runS zs two os (initS wd)).toks ++ [.op 14]) initP fin ∧ fin.segs = (closeS (runS zs two os (initS wd))).path ∧ fin.ended = true := by
  obtain ⟨p0, hp0, hs0⟩ : ∃ p0, RunsA wide (initS wd).toks initP p0 ∧ Sim wd (initS wd) p0 := by
    cases wd with
    | true => exact ⟨{ initP with stk := [77] }, RunsA.nums [77] initP (by simp) (by simp [initP]), ⟨rfl, rfl, rfl, rfl, fun h => (by cases h), fun _ => ⟨rfl, rfl, rfl, rfl⟩⟩⟩
    | false => exact ⟨initP, RunsA.refl _ _, ⟨rfl, rfl, rfl, rfl, fun h => (by cases h), fun _ => ⟨rfl, rfl, rfl, rfl⟩⟩⟩
  obtain ⟨t, p, e, r, sm, hB⟩ := run_sim (wide := wide) zs two os 0 _ p0 hs0 (Bd.init wide wd) (by omega)
  have hst : p.stk = [] ∨ p.seen = false ∧ ∃ v, p.stk = v :: [] := by
    cases ho : (runS zs two os (initS wd)).opn with
    | true => exact .inl (sm.o ho).2.1
    | false =>
      rw [(sm.n ho).2.1]
      cases wd with
      | true => exact .inr ⟨(sm.n ho).1, 77, rfl⟩
      | false => exact .inl rfl
  refine ⟨{ ({ clP { p with seen := true, stk := [] } with ended := true } : PS) with stk := [] }, ?_, ?_, rfl⟩
  · rw [e]
    exact (hp0.trans r) _ _ (.cons _ _ _ _ _ (.op 14 41 _ _ rfl (ok14 hB hst)) (.nil _))
  · exact (show (clP { p with seen := true, stk := [] }).segs = (clP p).segs from rfl).trans (clP_path sm)
end Go.Proofs.YtoanpkfekhkaoaaGreatDoor
