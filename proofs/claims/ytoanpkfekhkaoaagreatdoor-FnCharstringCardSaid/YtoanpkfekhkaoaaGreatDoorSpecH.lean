/-
  The reference's whole loop: it runs through all operators. Conditions: the loop's frame, at most 40 operators.
-/
import Derived.Test.YtoanpkfekhkaoaaGreatDoorSpecG
namespace Go.Proofs.YtoanpkfekhkaoaaGreatDoor
open Go Go.RowKit

/-- What spec.Charstring is handed: the cells of both slices, in the world in which it begins. -/
structure In4 (B ob oo ol nb no nl : Nat) (os zs : List Int) (w0 : World) : Prop where
  hol : ol ≤ 40
  hos : os.length = ol
  hob : 0 < ol → ob < B
  hoc : ∀ i, i < ol → w0.cell? ⟨ob, oo + i, none⟩ = some (.int .u8 (os.getD i 0))
  how : ∀ i, 0 ≤ os.getD i 0 ∧ os.getD i 0 ≤ 255
  hl : zs.length = nl
  h1 : 1 ≤ nl
  h2 : nl ≤ 1000
  hcn : ∀ i, i < nl → w0.cell? ⟨nb, no + i, none⟩ = some (.int .i16 (zs.getD i 0))
  hwf : ∀ i, -32768 ≤ zs.getD i 0 ∧ zs.getD i 0 ≤ 32767
  hnb : nb < B

def WI (B nb no nl nc ol : Nat) (ov : Value) (ways : Int) (os zs : List Int) (s0 : SS) (w0 : World) (a : Act) (w : World) : Prop :=
  ∃ t k, a = ⟨t, []⟩ ∧ Fx4 B ov ol k t ∧ k ≤ ol ∧ SpecSt B (.slice (some ⟨nb, no, none⟩) nl nc) ways w0 (runS zs (twoOf ways) (os.take k) s0) w ∧
    Bd k (wideOf ways) (runS zs (twoOf ways) (os.take k) s0)
def mu4 (ol : Nat) (a : Act) (_ : World) : Nat := ol - (intOf (a.tmps.getD 49 undef)).toNat

theorem mu4_of {B ol k : Nat} {ov : Value} {t : Array Value} {w : World} (h : Fx4 B ov ol k t) : mu4 ol ⟨t, []⟩ w = ol - k := by
  have : t.getD 49 undef = .int .i64 k := by simp [Array.getD_eq_getD_getElem?, h.s49]
  simp [mu4, this, intOf]

theorem round4 {B ob oo ol oc nb no nl nc : Nat} {ov : Value} {ways : Int} {os zs : List Int} {s0 : SS} {w0 : World} {Q : Exit → Act → World → Prop}
    (hI : In4 B ob oo ol nb no nl os zs w0) (hov : 0 < ol → ov = .slice (some ⟨ob, oo, none⟩) ol oc)
    (hQ : ∀ t w, Fx4 B ov ol ol t → SpecSt B (.slice (some ⟨nb, no, none⟩) nl nc) ways w0 (runS zs (twoOf ways) os s0) w → Q (.exit 0) ⟨t, []⟩ w)
    (a : Act) (w : World) (hW : WI B nb no nl nc ol ov ways os zs s0 w0 a w) :
    Code.wp Tryz.prog body4 (Exit.then (fun a' w' => WI B nb no nl nc ol ov ways os zs s0 w0 a' w' ∧ mu4 ol a' w' < mu4 ol a w) Q) a w := by
  obtain ⟨t, k, rfl, hF, hk, hS, hB⟩ := hW
  by_cases hkl : k < ol
  · have hov' := hov (by omega)
    subst hov'
    have hw40 := hI.hol
    have hc : w.cell? ⟨ob, oo + k, none⟩ = some (.int .u8 (os.getD k 0)) := (hS.below.cell (p := ⟨ob, oo + k, none⟩) (hI.hob (by omega))).trans (hI.hoc k hkl)
    have ho := hI.how k
    obtain ⟨o, hoe⟩ : ∃ o, o = os.getD k 0 := ⟨_, rfl⟩
    rw [← hoe] at hc ho
    have htk : os.take (k + 1) = os.take k ++ [o] := by
      have := hI.hos
      rw [List.take_succ_eq_append_getElem (by omega), hoe]; simp [List.getD, show k < os.length by omega]
    have hrun : runS zs (twoOf ways) (os.take (k + 1)) s0 = stepM zs (twoOf ways) (effM (runS zs (twoOf ways) (os.take k) s0) o) (runS zs (twoOf ways) (os.take k) s0) := by
      rw [htk, runS_snoc]
    have hmu := mu4_of (w := w) hF
    generalize mu4 ol ⟨t, []⟩ w = M at hmu ⊢
    have fin : ∀ m, effM (runS zs (twoOf ways) (os.take k) s0) o = m → ∀ t' w'', Fr4 B ob oo ol oc (k + 1) t' →
        SpecSt B (.slice (some ⟨nb, no, none⟩) nl nc) ways w0 (stepM zs (twoOf ways) m (runS zs (twoOf ways) (os.take k) s0)) w'' → SFrm B w w'' →
        Exit.then (fun a' w' => WI B nb no nl nc ol (.slice (some ⟨ob, oo, none⟩) ol oc) ways os zs s0 w0 a' w' ∧ mu4 ol a' w' < M) Q .normal ⟨t', []⟩ w'' := by
      intro m hm t' w'' hf hs _
      subst hm
      refine ⟨⟨t', k + 1, rfl, hf.fx, hkl, by rw [hrun]; exact hs, by rw [hrun]; exact hB.step _ _ _⟩, ?_⟩
      rw [hmu, mu4_of hf.fx]; omega
    rw [show t = fr4 B ob oo ol oc k fun i => t.getD i undef from hF.lit]
    clear hov hrun htk hmu
    generalize runS zs (twoOf ways) (os.take k) s0 = s at *
    have hat : s.at_ ≤ 1000 := by have := hB.cat; omega
    have hx : -900000 ≤ s.here.1 ∧ s.here.1 ≤ 900000 := by have := hB.hx; omega
    have hy : -900000 ≤ s.here.2 ∧ s.here.2 ≤ 900000 := by have := hB.hy; omega
    have hlp : s.path.length ≤ 50000 := by have := hB.lp; omega
    have hlt : (encs (wideOf ways) s.toks).length ≤ 50000 := by have := hB.lt; omega
    obtain ⟨_, _, _, _, _, hl, h1, h2, hcn, hwf, hnb⟩ := hI
    cases hopn : s.opn with
    | true =>
      have he : effM s o = (o % 12).toNat := by unfold effM; rw [if_pos hopn]
      have hm : o % 12 = 0 ∨ o % 12 = 1 ∨ o % 12 = 2 ∨ o % 12 = 3 ∨ o % 12 = 4 ∨ o % 12 = 5 ∨ o % 12 = 6 ∨ o % 12 = 7 ∨ o % 12 = 8 ∨ o % 12 = 9 ∨ o % 12 = 10 ∨ o % 12 = 11 := by omega
      rcases hm with hm | hm | hm | hm | hm | hm | hm | hm | hm | hm | hm | hm
      · exact case_t0 hS hkl hw40 hc ho hl h1 h2 hcn hwf hnb hat hx hy hlp hlt hopn hm (fin 0 (by rw [he, hm]; rfl))
      · exact case_t1 hS hkl hw40 hc ho hl h1 h2 hcn hwf hnb hat hx hy hlp hlt hopn hm (fin 1 (by rw [he, hm]; rfl))
      · exact case_t2 hS hkl hw40 hc ho hl h1 h2 hcn hwf hnb hat hx hy hlp hlt hopn hm (fin 2 (by rw [he, hm]; rfl))
      · exact case_t3 hS hkl hw40 hc ho hl h1 h2 hcn hwf hnb hat hx hy hlp hlt hopn hm (fin 3 (by rw [he, hm]; rfl))
      · exact case_t4 hS hkl hw40 hc ho hl h1 h2 hcn hwf hnb hat hx hy hlp hlt hopn hm (fin 4 (by rw [he, hm]; rfl))
      · exact case_t5 hS hkl hw40 hc ho hl h1 h2 hcn hwf hnb hat hx hy hlp hlt hopn hm (fin 5 (by rw [he, hm]; rfl))
      · exact case_t6 hS hkl hw40 hc ho hl h1 h2 hcn hwf hnb hat hx hy hlp hlt hopn hm (fin 6 (by rw [he, hm]; rfl))
      · exact case_t7 hS hkl hw40 hc ho hl h1 h2 hcn hwf hnb hat hx hy hlp hlt hopn hm (fin 7 (by rw [he, hm]; rfl))
      · exact case_t8 hS hkl hw40 hc ho hl h1 h2 hcn hwf hnb hat hx hy hlp hlt hopn hm (fin 8 (by rw [he, hm]; rfl))
      · cases h2w : twoOf ways with
        | true => exact case_t9a hS hkl hw40 hc ho hl h1 h2 hcn hwf hnb hat hx hy hlp hlt hopn hm h2w (fin 9 (by rw [he, hm]; rfl))
        | false => exact case_t9b hS hkl hw40 hc ho hl h1 h2 hcn hwf hnb hat hx hy hlp hlt hopn hm h2w (fin 9 (by rw [he, hm]; rfl))
      · exact case_t10 hS hkl hw40 hc ho hl h1 h2 hcn hwf hnb hat hx hy hlp hlt hopn hm (fin 10 (by rw [he, hm]; rfl))
      · exact case_t11 hS hkl hw40 hc ho hl h1 h2 hcn hwf hnb hat hx hy hlp hlt hopn hm (fin 11 (by rw [he, hm]; rfl))
    | false =>
      have he : effM s o = (o % 12 % 3).toNat := by unfold effM; rw [if_neg (by simp [hopn])]
      have hm : o % 12 % 3 = 0 ∨ o % 12 % 3 = 1 ∨ o % 12 % 3 = 2 := by omega
      rcases hm with hm | hm | hm
      · exact case_f0 hS hkl hw40 hc ho hl h1 h2 hcn hwf hnb hat hx hy hlp hlt hopn hm (fin 0 (by rw [he, hm]; rfl))
      · exact case_f1 hS hkl hw40 hc ho hl h1 h2 hcn hwf hnb hat hx hy hlp hlt hopn hm (fin 1 (by rw [he, hm]; rfl))
      · exact case_f2 hS hkl hw40 hc ho hl h1 h2 hcn hwf hnb hat hx hy hlp hlt hopn hm (fin 2 (by rw [he, hm]; rfl))
  · obtain rfl : k = ol := by omega
    rw [hF.lit]
    refine case_exit (Nat.le_refl _) hI.hol fun t' hf => ?_
    have hos := hI.hos
    rw [List.take_of_length_le (by omega)] at hS
    exact hQ t' w hf hS

theorem loop4 {B ob oo ol oc nb no nl nc : Nat} {ov : Value} {ways : Int} {os zs : List Int} {s0 : SS} {w0 w : World} {t : Array Value} {Q : Exit → Act → World → Prop}
    (hI : In4 B ob oo ol nb no nl os zs w0) (hov : 0 < ol → ov = .slice (some ⟨ob, oo, none⟩) ol oc) (hS : SpecSt B (.slice (some ⟨nb, no, none⟩) nl nc) ways w0 s0 w) (hB : Bd 0 (wideOf ways) s0)
    (hF : Fx4 B ov ol 0 t)
    (hQ : ∀ t w, Fx4 B ov ol ol t → SpecSt B (.slice (some ⟨nb, no, none⟩) nl nc) ways w0 (runS zs (twoOf ways) os s0) w → Q (.exit 0) ⟨t, []⟩ w) :
    Code.wp Tryz.prog (Code.loop body4) Q ⟨t, []⟩ w := by
  refine wp_loop (WI B nb no nl nc ol ov ways os zs s0 w0) (mu4 ol) ?_ (fun a w' hW => round4 hI hov hQ a w' hW)
  exact ⟨t, 0, rfl, hF, Nat.zero_le _, hS, hB⟩
end Go.Proofs.YtoanpkfekhkaoaaGreatDoor
