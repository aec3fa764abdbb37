/-
  The contract of the interpreter's run. Conditions: the bytes lie in memory as the tokens encode them.
-/
import Derived.Test.YtoanpkfekhkaoaaGreatDoorIntM
import Derived.Deep.Cut
namespace Go.Proofs.YtoanpkfekhkaoaaGreatDoor
open Go Go.RowKit
section
variable {Bb lo g o n c : Nat} {s : PS} {w : World} {u : Nat → Value} {Q : Exit → Act → World → Prop} {wd : Bool} {L : List Int}
attribute [local go_sem ↓] Go.wp_at_zero Go.wp_at_succ
set_option maxRecDepth 100000 in
set_option maxHeartbeats 2000000 in
/-- The interpreter, from a state whose type2 data stand as 'initialize' leaves them. -/
theorem run_st {fin : PS} {rest : List Tok} {lv : Int} {k : Nat} (hg : g ≠ Bb) (hn : k = (encs wd rest).length) (hc1 : k ≤ c) (hc2 : c ≤ 9223372036854775807) (hby : ByteBlk g (encs wd rest) w) (hR : Runs wd rest s fin) (hs : s.stk = [])
    (hf : ∀ o, w.frozen? ⟨Bb, o, none⟩ = false) (hany : ∀ o, o < 670 → ∃ v, w.cell? ⟨Bb, o, none⟩ = some v)
    (hW : PSt Bb lo (.slice (some ⟨g, 0, none⟩) k c) s ((((((w.setCell ⟨Bb, 514, none⟩ (.int .u32 2)).setCell ⟨Bb, 515, none⟩ (.slice (some ⟨g, 0, none⟩) k c)).setCell ⟨Bb, 516, none⟩ (.int .u32 0)).setCell ⟨Bb, 517, none⟩ (.int .u32 lv)).setCell ⟨Bb, 566, none⟩ (.int .i32 0)).setCell ⟨Bb, 587, none⟩ (.int .i32 0))) :
    Calls Tryz.prog 18 #[.pointer (some ⟨Bb, 514, none⟩), .int .u32 2, .slice (some ⟨g, 0, none⟩) k c, .int .u32 0, .int .u32 lv] w (fun e w' => e = .returned .nilIface ∧ (∃ ins, PSt Bb lo ins fin w') ∧ PFrm Bb lo w w') := by
  obtain ⟨v1, h1⟩ := hany 514 (by decide)
  obtain ⟨v2, h2⟩ := hany 515 (by decide)
  obtain ⟨v3, h3⟩ := hany 516 (by decide)
  obtain ⟨v4, h4⟩ := hany 517 (by decide)
  obtain ⟨v5, h5⟩ := hany 566 (by decide)
  obtain ⟨v6, h6⟩ := hany 587 (by decide)
  have f1 := hf 514
  have f2 := hf 515
  have f3 := hf 516
  have f4 := hf 517
  have f5 := hf 566
  have f6 := hf 587
  have hF : PFrm Bb lo w ((((((w.setCell ⟨Bb, 514, none⟩ (.int .u32 2)).setCell ⟨Bb, 515, none⟩ (.slice (some ⟨g, 0, none⟩) k c)).setCell ⟨Bb, 516, none⟩ (.int .u32 0)).setCell ⟨Bb, 517, none⟩ (.int .u32 lv)).setCell ⟨Bb, 566, none⟩ (.int .i32 0)).setCell ⟨Bb, 587, none⟩ (.int .i32 0)) :=
    (PFrm.set _ _ _ _ _).trans ((PFrm.set _ _ _ _ _).trans ((PFrm.set _ _ _ _ _).trans ((PFrm.set _ _ _ _ _).trans ((PFrm.set _ _ _ _ _).trans (PFrm.set _ _ _ _ _)))))
  clear hf hany
  have HR := Lib.hid hR
  have HB := Lib.hid hby
  have HN := Lib.hid hn
  clear hR hby hn
  go_enter Tryz.func18, Tryz.ntmps18
  go_wp2_with fail
  go_step3
  go_wp2_with fail
  go_step3
  go_wp2_with fail
  generalize (((((w.setCell ⟨Bb, 514, none⟩ (.int .u32 2)).setCell ⟨Bb, 515, none⟩ (.slice (some ⟨g, 0, none⟩) k c)).setCell ⟨Bb, 516, none⟩ (.int .u32 0)).setCell ⟨Bb, 517, none⟩ (.int .u32 lv)).setCell ⟨Bb, 566, none⟩ (.int .i32 0)).setCell ⟨Bb, 587, none⟩ (.int .i32 0) = W at hW hF ⊢
  refine loopR (w0 := w) hg ?_ hW ⟨_, c, by rw [← HN.out], by rw [← HN.out]; exact hc1, hc2, fun _ => rfl⟩ (HB.out.frm hF hg) HR.out hF ?_
  · exact ⟨rfl, rfl, rfl⟩
  intro t ins w1 hFx hS1 hF1
  rw [hFx.lit]
  unfold frR
  go_wp2_with fail
  rw [Exit.noGoto_ret]
  go_ret
  exact ⟨rfl, ⟨ins, hS1⟩, hF1⟩
end
end Go.Proofs.YtoanpkfekhkaoaaGreatDoor
