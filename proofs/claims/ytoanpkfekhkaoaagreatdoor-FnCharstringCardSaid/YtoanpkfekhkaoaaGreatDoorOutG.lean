/-
  Every place of the reference's path lies within bounds. Condition: at most 40 operators.
-/
import Derived.Test.YtoanpkfekhkaoaaGreatDoorOutC
import Derived.Test.YtoanpkfekhkaoaaGreatDoorSpecR
namespace Go.Proofs.YtoanpkfekhkaoaaGreatDoor
open Go Go.RowKit

def PathOk (s : SS) : Prop := ∀ sg ∈ s.path, SegOk sg
theorem pok_one {op x y : Int} (ho : op = 0 ∨ op = 1) (hx : -2000000 ≤ x ∧ x ≤ 2000000) (hy : -2000000 ≤ y ∧ y ≤ 2000000) : SegOk ⟨op, [(x, y)]⟩ :=
  ⟨fun p hp => by simp only [List.mem_singleton] at hp; subst hp; exact ⟨hx, hy⟩, .inl ⟨ho, rfl⟩⟩
theorem pok_three {x y x1 y1 x2 y2 : Int} (hx : -2000000 ≤ x ∧ x ≤ 2000000) (hy : -2000000 ≤ y ∧ y ≤ 2000000) (hx1 : -2000000 ≤ x1 ∧ x1 ≤ 2000000) (hy1 : -2000000 ≤ y1 ∧ y1 ≤ 2000000) (hx2 : -2000000 ≤ x2 ∧ x2 ≤ 2000000) (hy2 : -2000000 ≤ y2 ∧ y2 ≤ 2000000) :
    SegOk ⟨3, [(x, y), (x1, y1), (x2, y2)]⟩ :=
  ⟨fun p hp => by simp only [List.mem_cons, List.mem_nil_iff, or_false] at hp; rcases hp with rfl | rfl | rfl <;> exact ⟨by assumption, by assumption⟩, .inr ⟨rfl, rfl⟩⟩
theorem pok_snoc {l : List Seg} {sg : Seg} (h : ∀ s ∈ l, SegOk s) (hs : SegOk sg) : ∀ s ∈ l ++ [sg], SegOk s := fun s hm => by
  rcases List.mem_append.1 hm with hm | hm
  · exact h s hm
  · rw [List.mem_singleton.1 hm]; exact hs
theorem pok_close {s : SS} (h : PathOk s) (bx : -2000000 ≤ s.beg.1 ∧ s.beg.1 ≤ 2000000) (by_ : -2000000 ≤ s.beg.2 ∧ s.beg.2 ≤ 2000000) : PathOk (closeS s) := by
  unfold closeS
  split
  · exact pok_snoc h (pok_one (.inr rfl) bx by_)
  · exact h
theorem pok_step {j : Nat} {b : Bool} {s : SS} (hB : Bd j b s) (hj : j ≤ 40) (h : PathOk s) (zs : List Int) (two : Bool) (m : Nat) : PathOk (stepM zs two m s) := by
  obtain ⟨hx, hy, bx, by_, -, -, -⟩ := hB
  have ba := nx_bd zs (s.at_ + 1)
  have bb := nx_bd zs (s.at_ + 1 + 1)
  have bc := nx_bd zs (s.at_ + 1 + 1 + 1)
  have bd := nx_bd zs (s.at_ + 1 + 1 + 1 + 1)
  have be := nx_bd zs (s.at_ + 1 + 1 + 1 + 1 + 1)
  have bf := nx_bd zs (s.at_ + 1 + 1 + 1 + 1 + 1 + 1)
  have hcl : PathOk (closeS { s with at_ := s.at_ + 1 + 1 + 1 + 1 + 1 + 1 }) := pok_close (s := { s with at_ := s.at_ + 1 + 1 + 1 + 1 + 1 + 1 }) h (by simp only; omega) (by simp only; omega)
  unfold stepM
  generalize nx zs (s.at_ + 1) = va at *
  generalize nx zs (s.at_ + 1 + 1) = vb at *
  generalize nx zs (s.at_ + 1 + 1 + 1) = vc at *
  generalize nx zs (s.at_ + 1 + 1 + 1 + 1) = vd at *
  generalize nx zs (s.at_ + 1 + 1 + 1 + 1 + 1) = ve at *
  generalize nx zs (s.at_ + 1 + 1 + 1 + 1 + 1 + 1) = vf at *
  dsimp only
  split
  · exact pok_snoc hcl (pok_one (.inl rfl) (by omega) (by omega))
  · exact pok_snoc hcl (pok_one (.inl rfl) (by omega) (by omega))
  · exact pok_snoc hcl (pok_one (.inl rfl) (by omega) (by omega))
  · exact pok_snoc (pok_snoc h (pok_one (.inr rfl) (by simp only [opS, putS]; omega) (by simp only [opS, putS]; omega))) (pok_one (.inr rfl) (by simp only [lineS, opS, putS]; omega) (by simp only [lineS, opS, putS]; omega))
  · exact pok_snoc (pok_snoc (pok_snoc h (pok_one (.inr rfl) (by simp only [opS, putS]; omega) (by simp only [opS, putS]; omega))) (pok_one (.inr rfl) (by simp only [lineS, opS, putS]; omega) (by simp only [lineS, opS, putS]; omega))) (pok_one (.inr rfl) (by simp only [lineS, opS, putS]; omega) (by simp only [lineS, opS, putS]; omega))
  · exact pok_snoc (pok_snoc (pok_snoc h (pok_one (.inr rfl) (by simp only [opS, putS]; omega) (by simp only [opS, putS]; omega))) (pok_one (.inr rfl) (by simp only [lineS, opS, putS]; omega) (by simp only [lineS, opS, putS]; omega))) (pok_one (.inr rfl) (by simp only [lineS, opS, putS]; omega) (by simp only [lineS, opS, putS]; omega))
  · exact pok_snoc h (pok_three (by simp only [opS, putS]; omega) (by simp only [opS, putS]; omega) (by simp only [opS, putS]; omega) (by simp only [opS, putS]; omega) (by simp only [opS, putS]; omega) (by simp only [opS, putS]; omega))
  · exact pok_snoc (pok_snoc h (pok_three (by simp only [opS, putS]; omega) (by simp only [opS, putS]; omega) (by simp only [opS, putS]; omega) (by simp only [opS, putS]; omega) (by simp only [opS, putS]; omega) (by simp only [opS, putS]; omega))) (pok_one (.inr rfl) (by simp only [curveS, opS, putS]; omega) (by simp only [curveS, opS, putS]; omega))
  · exact pok_snoc (pok_snoc h (pok_one (.inr rfl) (by simp only [opS, putS]; omega) (by simp only [opS, putS]; omega))) (pok_three (by simp only [lineS, opS, putS]; omega) (by simp only [lineS, opS, putS]; omega) (by simp only [lineS, opS, putS]; omega) (by simp only [lineS, opS, putS]; omega) (by simp only [lineS, opS, putS]; omega) (by simp only [lineS, opS, putS]; omega))
  · split
    · exact pok_snoc h (pok_three (by simp only [opS, putS]; omega) (by simp only [opS, putS]; omega) (by simp only [opS, putS]; omega) (by simp only [opS, putS]; omega) (by simp only [opS, putS]; omega) (by simp only [opS, putS]; omega))
    · exact pok_snoc h (pok_three (by simp only [opS, putS]; omega) (by simp only [opS, putS]; omega) (by simp only [opS, putS]; omega) (by simp only [opS, putS]; omega) (by simp only [opS, putS]; omega) (by simp only [opS, putS]; omega))
  · exact pok_snoc h (pok_three (by simp only [opS, putS]; omega) (by simp only [opS, putS]; omega) (by simp only [opS, putS]; omega) (by simp only [opS, putS]; omega) (by simp only [opS, putS]; omega) (by simp only [opS, putS]; omega))
  · exact pok_snoc h (pok_three (by simp only [opS, putS]; omega) (by simp only [opS, putS]; omega) (by simp only [opS, putS]; omega) (by simp only [opS, putS]; omega) (by simp only [opS, putS]; omega) (by simp only [opS, putS]; omega))
theorem pok_run {b : Bool} (zs : List Int) (two : Bool) : ∀ (l : List Int) (j : Nat) (s : SS), Bd j b s → j + l.length ≤ 40 → PathOk s → PathOk (runS zs two l s)
  | [], _, _, _, _, h => h
  | o :: l, j, s, hB, hj, h => by
    simp only [List.length_cons] at hj
    exact pok_run zs two l (j + 1) _ (hB.step zs two _) (by omega) (pok_step hB (by omega) h zs two _)
theorem pok_all (wide wd : Bool) (zs : List Int) (two : Bool) (os : List Int) (ho : os.length ≤ 40) : PathOk (closeS (runS zs two os (initS wd))) ∧ (closeS (runS zs two os (initS wd))).path.length ≤ 100000 ∧
    (encs wide ((runS zs two os (initS wd)).toks ++ [.op 14])).length ≤ 1000000 ∧ 0 < (encs wide ((runS zs two os (initS wd)).toks ++ [.op 14])).length := by
  have hB := (Bd.init wide wd).run zs two os
  have h := pok_run zs two os 0 _ (Bd.init wide wd) (by omega) (fun sg hs => by cases wd <;> simp [initS] at hs)
  obtain ⟨_, _, bx, by_, lp, lt, _⟩ := hB
  have hc := closeS_path (runS zs two os (initS wd))
  refine ⟨pok_close h (by omega) (by omega), by omega, ?_, ?_⟩
  · rw [encs_append, List.length_append]; simp only [encs_op, List.length_singleton]; omega
  · rw [encs_append, List.length_append]; simp only [encs_op, List.length_singleton]; omega
end Go.Proofs.YtoanpkfekhkaoaaGreatDoor
