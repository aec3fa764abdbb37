/-
  The reference's run as a plain function of the operators and the numbers, and the bounds on its places. No program in sight.
-/
import Derived.Test.YtoanpkfekhkaoaaGreatDoorSpecE
namespace Go.Proofs.YtoanpkfekhkaoaaGreatDoor
open Go Go.RowKit

def effM (s : SS) (o : Int) : Nat := if s.opn = true then (o % 12).toNat else (o % 12 % 3).toNat
def runS (zs : List Int) (two : Bool) : List Int → SS → SS
  | [], s => s
  | o :: r, s => runS zs two r (stepM zs two (effM s o) s)
theorem runS_snoc (zs : List Int) (two : Bool) (o : Int) : ∀ (l : List Int) (s : SS), runS zs two (l ++ [o]) s = stepM zs two (effM (runS zs two l s) o) (runS zs two l s)
  | [], _ => rfl
  | a :: l, s => runS_snoc zs two o l _

structure Bd (j : Nat) (b : Bool) (s : SS) : Prop where
  hx : -2000 * (j : Int) ≤ s.here.1 ∧ s.here.1 ≤ 2000 * (j : Int)
  hy : -2000 * (j : Int) ≤ s.here.2 ∧ s.here.2 ≤ 2000 * (j : Int)
  bx : -2000 * (j : Int) ≤ s.beg.1 ∧ s.beg.1 ≤ 2000 * (j : Int)
  by_ : -2000 * (j : Int) ≤ s.beg.2 ∧ s.beg.2 ≤ 2000 * (j : Int)
  lp : s.path.length ≤ 5 * j
  lt : (encs b s.toks).length ≤ 3 + 30 * j
  cat : s.at_ = 6 * j

theorem Bd.step {j : Nat} {b : Bool} {s : SS} (h : Bd j b s) (zs : List Int) (two : Bool) (m : Nat) : Bd (j + 1) b (stepM zs two m s) := by
  obtain ⟨hx, hy, bx, by_, lp, lt, cat⟩ := h
  have ba := nx_bd zs (s.at_ + 1)
  have bb := nx_bd zs (s.at_ + 1 + 1)
  have bc := nx_bd zs (s.at_ + 1 + 1 + 1)
  have bd := nx_bd zs (s.at_ + 1 + 1 + 1 + 1)
  have be := nx_bd zs (s.at_ + 1 + 1 + 1 + 1 + 1)
  have bf := nx_bd zs (s.at_ + 1 + 1 + 1 + 1 + 1 + 1)
  unfold stepM
  generalize nx zs (s.at_ + 1) = va at *
  generalize nx zs (s.at_ + 1 + 1) = vb at *
  generalize nx zs (s.at_ + 1 + 1 + 1) = vc at *
  generalize nx zs (s.at_ + 1 + 1 + 1 + 1) = vd at *
  generalize nx zs (s.at_ + 1 + 1 + 1 + 1 + 1) = ve at *
  generalize nx zs (s.at_ + 1 + 1 + 1 + 1 + 1 + 1) = vf at *
  dsimp only
  have hcl : ∀ t : SS, (closeS t).at_ = t.at_ ∧ (closeS t).toks = t.toks := fun t => by unfold closeS; split <;> exact ⟨rfl, rfl⟩
  have hcp := closeS_path { s with at_ := s.at_ + 1 + 1 + 1 + 1 + 1 + 1 }
  have hc1 := (hcl { s with at_ := s.at_ + 1 + 1 + 1 + 1 + 1 + 1 }).1
  have hc2 := (hcl { s with at_ := s.at_ + 1 + 1 + 1 + 1 + 1 + 1 }).2
  dsimp only at hcp hc1 hc2
  have put0 := fun (t : SS) (l : List Int) (n : Nat) (ht : (encs b t.toks).length ≤ n) => tl_put (b := b) (s := t) l ht
  have T : ∀ (t : SS) (l : List Int) (o : Int), t.toks = s.toks → l.length ≤ 9 → (encs b (opS o (putS l t)).toks).length ≤ 3 + 30 * (j + 1) := by
    intro t l o ht hl
    have h1 := tl_op (b := b) (s := putS l t) o (tl_put (b := b) (s := t) l (n := 3 + 30 * j) (by rw [ht]; exact lt))
    omega
  split
  · refine ⟨?_, ?_, ?_, ?_, ?_, T _ _ _ hc2 (by simp), ?_⟩ <;> simp only [moveS, opS, putS, List.length_append, List.length_cons, List.length_nil] <;> omega
  · refine ⟨?_, ?_, ?_, ?_, ?_, T _ _ _ hc2 (by simp), ?_⟩ <;> simp only [moveS, opS, putS, List.length_append, List.length_cons, List.length_nil] <;> omega
  · refine ⟨?_, ?_, ?_, ?_, ?_, T _ _ _ hc2 (by simp), ?_⟩ <;> simp only [moveS, opS, putS, List.length_append, List.length_cons, List.length_nil] <;> omega
  · refine ⟨?_, ?_, ?_, ?_, ?_, T { s with at_ := s.at_ + 1 + 1 + 1 + 1 + 1 + 1 } _ _ rfl (by simp), ?_⟩ <;> simp only [lineS, opS, putS, List.length_append, List.length_cons, List.length_nil] <;> omega
  · refine ⟨?_, ?_, ?_, ?_, ?_, T { s with at_ := s.at_ + 1 + 1 + 1 + 1 + 1 + 1 } _ _ rfl (by simp), ?_⟩ <;> simp only [lineS, opS, putS, List.length_append, List.length_cons, List.length_nil] <;> omega
  · refine ⟨?_, ?_, ?_, ?_, ?_, T { s with at_ := s.at_ + 1 + 1 + 1 + 1 + 1 + 1 } _ _ rfl (by simp), ?_⟩ <;> simp only [lineS, opS, putS, List.length_append, List.length_cons, List.length_nil] <;> omega
  · refine ⟨?_, ?_, ?_, ?_, ?_, T { s with at_ := s.at_ + 1 + 1 + 1 + 1 + 1 + 1 } _ _ rfl (by simp), ?_⟩ <;> simp only [curveS, opS, putS, List.length_append, List.length_cons, List.length_nil] <;> omega
  · refine ⟨?_, ?_, ?_, ?_, ?_, T { s with at_ := s.at_ + 1 + 1 + 1 + 1 + 1 + 1 } _ _ rfl (by simp), ?_⟩ <;> simp only [lineS, curveS, opS, putS, List.length_append, List.length_cons, List.length_nil] <;> omega
  · refine ⟨?_, ?_, ?_, ?_, ?_, T { s with at_ := s.at_ + 1 + 1 + 1 + 1 + 1 + 1 } _ _ rfl (by simp), ?_⟩ <;> simp only [lineS, curveS, opS, putS, List.length_append, List.length_cons, List.length_nil] <;> omega
  · split
    · refine ⟨?_, ?_, ?_, ?_, ?_, T { s with at_ := s.at_ + 1 + 1 + 1 + 1 + 1 + 1 } _ _ rfl (by simp), ?_⟩ <;> simp only [curveS, opS, putS, List.length_append, List.length_cons, List.length_nil] <;> omega
    · refine ⟨?_, ?_, ?_, ?_, ?_, T { s with at_ := s.at_ + 1 + 1 + 1 + 1 + 1 + 1 } _ _ rfl (by simp), ?_⟩ <;> simp only [curveS, opS, putS, List.length_append, List.length_cons, List.length_nil] <;> omega
  · refine ⟨?_, ?_, ?_, ?_, ?_, T { s with at_ := s.at_ + 1 + 1 + 1 + 1 + 1 + 1 } _ _ rfl (by simp), ?_⟩ <;> simp only [curveS, opS, putS, List.length_append, List.length_cons, List.length_nil] <;> omega
  · refine ⟨?_, ?_, ?_, ?_, ?_, T { s with at_ := s.at_ + 1 + 1 + 1 + 1 + 1 + 1 } _ _ rfl (by simp), ?_⟩ <;> simp only [curveS, opS, putS, List.length_append, List.length_cons, List.length_nil] <;> omega

theorem Bd.run {b : Bool} (zs : List Int) (two : Bool) : ∀ (l : List Int) (j : Nat) (s : SS), Bd j b s → Bd (j + l.length) b (runS zs two l s)
  | [], _, _, h => h
  | o :: l, j, s, h => by
    have := Bd.run zs two l (j + 1) _ (h.step zs two (effM s o))
    rw [List.length_cons, show j + (l.length + 1) = j + 1 + l.length by omega]
    exact this

def initS (wd : Bool) : SS := ⟨if wd then [.num 77] else [], [], 0, (0, 0), (0, 0), false⟩
theorem Bd.init (b wd : Bool) : Bd 0 b (initS wd) := by
  refine ⟨by simp [initS], by simp [initS], by simp [initS], by simp [initS], by simp [initS], ?_, rfl⟩
  cases wd
  · simp [initS, encs]
  · have := enc_len b 77; simp [initS, encs_num]; omega
end Go.Proofs.YtoanpkfekhkaoaaGreatDoor
