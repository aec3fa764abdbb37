/-
  The frame of the interpreter's loop.
-/
import Derived.Test.YtoanpkfekhkaoaaGreatDoorIntG
import Derived.Test.YtoanpkfekhkaoaaGreatDoorIntT
import Derived.Test.YtoanpkfekhkaoaaGreatDoorSpecE
import Derived.LoopN
namespace Go.Proofs.YtoanpkfekhkaoaaGreatDoor
open Go Go.RowKit

noncomputable def bodyR : Code := ((Tryz.f18.body.bind firstLoop).getD .skip)
structure FxR (Bb : Nat) (t : Array Value) : Prop where
  size : t.size = 156
  s0 : t[0]? = some (.pointer (some ⟨Bb, 514, none⟩))
  s1 : t[1]? = some (.int .u32 2)
def slotR (Bb : Nat) (u : Nat → Value) : Nat → Value
  | 0 => .pointer (some ⟨Bb, 514, none⟩)
  | 1 => .int .u32 2
  | n => u n
set_option maxRecDepth 100000 in
def frR (Bb : Nat) (u : Nat → Value) : Array Value := #[.pointer (some ⟨Bb, 514, none⟩), .int .u32 2, u 2, u 3, u 4, u 5, u 6, u 7, u 8, u 9, u 10, u 11, u 12, u 13, u 14, u 15, u 16, u 17, u 18, u 19, u 20, u 21, u 22, u 23, u 24, u 25, u 26, u 27, u 28, u 29, u 30, u 31, u 32, u 33, u 34, u 35, u 36, u 37, u 38, u 39, u 40, u 41, u 42, u 43, u 44, u 45, u 46, u 47, u 48, u 49, u 50, u 51, u 52, u 53, u 54, u 55, u 56, u 57, u 58, u 59, u 60, u 61, u 62, u 63, u 64, u 65, u 66, u 67, u 68, u 69, u 70, u 71, u 72, u 73, u 74, u 75, u 76, u 77, u 78, u 79, u 80, u 81, u 82, u 83, u 84, u 85, u 86, u 87, u 88, u 89, u 90, u 91, u 92, u 93, u 94, u 95, u 96, u 97, u 98, u 99, u 100, u 101, u 102, u 103, u 104, u 105, u 106, u 107, u 108, u 109, u 110, u 111, u 112, u 113, u 114, u 115, u 116, u 117, u 118, u 119, u 120, u 121, u 122, u 123, u 124, u 125, u 126, u 127, u 128, u 129, u 130, u 131, u 132, u 133, u 134, u 135, u 136, u 137, u 138, u 139, u 140, u 141, u 142, u 143, u 144, u 145, u 146, u 147, u 148, u 149, u 150, u 151, u 152, u 153, u 154, u 155]
set_option maxRecDepth 100000 in
theorem frR_eq (Bb : Nat) (u : Nat → Value) : frR Bb u = ((List.range 156).map (slotR Bb u)).toArray := by
  kernel_rfl
theorem FxR.lit {Bb : Nat} {t : Array Value} (h : FxR Bb t) : t = frR Bb fun i => t.getD i undef := by
  rw [frR_eq]
  apply Array.ext_getElem?
  intro i
  by_cases hi : i < 156
  · have hg : t[i]? = some (t.getD i undef) := by simp [Array.getD, h.size, hi]
    have e : (((List.range 156).map (slotR Bb fun i => t.getD i undef)).toArray)[i]? = some (slotR Bb (fun i => t.getD i undef) i) := by simp [hi]
    rw [e]
    unfold slotR
    split
    · exact h.s0
    · exact h.s1
    · exact hg
  · rw [Array.getElem?_eq_none (by have := h.size; omega), Array.getElem?_eq_none (by simp; omega)]

section
variable {Bb lo g o n c : Nat} {s : PS} {w : World} {u : Nat → Value} {Q : Exit → Act → World → Prop}
attribute [local go_sem ↓] Go.wp_at_zero Go.wp_at_succ
set_option maxRecDepth 100000 in
theorem round_end {ao : Option Addr} (hS : PSt Bb lo (.slice ao 0 c) s w) (hQ : ∀ t, FxR Bb t → Q (.exit 0) ⟨t, []⟩ w) : Code.wp Tryz.prog bodyR Q ⟨frR Bb u, []⟩ w := by
  have h515 := hS.cell.2.1
  have HQ := Lib.hid hQ
  clear hQ
  conv => arg 2; whnf
  unfold frR
  go_wp2_with fail
  exact HQ.out _ ⟨rfl, rfl, rfl⟩
set_option maxRecDepth 100000 in
theorem round_num (hS : PSt Bb lo (.slice (some ⟨g, o, none⟩) n c) s w) (hn : 0 < n) {o' n' : Nat} {v : Int} (hC : Calls Tryz.prog 20 #[.pointer (some ⟨Bb, 514, none⟩)] w (NumTo Bb lo g o' n' s v w))
    (hQ : ∀ t ins w', FxR Bb t → InsAt g o' n' ins → PSt Bb lo ins { s with stk := s.stk ++ [v] } w' → PFrm Bb lo w w' → Q .normal ⟨t, []⟩ w') : Code.wp Tryz.prog bodyR Q ⟨frR Bb u, []⟩ w := by
  have h515 := hS.cell.2.1
  have HQ := Lib.hid hQ
  clear hQ
  conv => arg 2; whnf
  unfold frR
  go_wp2_with fail
  refine hC.mono ?_
  rintro e w1 ⟨rfl, ins, hI, hS1, hF1⟩
  go_wp2_with fail
  exact HQ.out _ _ _ ⟨rfl, rfl, rfl⟩ hI hS1 hF1
end
end Go.Proofs.YtoanpkfekhkaoaaGreatDoor
