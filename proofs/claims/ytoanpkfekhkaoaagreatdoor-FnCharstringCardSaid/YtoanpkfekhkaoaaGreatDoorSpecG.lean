/-
  The cases of a round joined. Conditions: the loop's frame.
-/
import Derived.Test.YtoanpkfekhkaoaaGreatDoorSpecR
import Derived.Test.YtoanpkfekhkaoaaGreatDoorSpecF1
import Derived.Test.YtoanpkfekhkaoaaGreatDoorSpecF2
import Derived.Test.YtoanpkfekhkaoaaGreatDoorSpecF3
import Derived.Test.YtoanpkfekhkaoaaGreatDoorSpecF4
import Derived.Test.YtoanpkfekhkaoaaGreatDoorSpecF5
namespace Go.Proofs.YtoanpkfekhkaoaaGreatDoor
open Go Go.RowKit

/-- The frame at the loop's head, the ops' slice as a value. -/
structure Fx4 (B : Nat) (ov : Value) (ol k : Nat) (t : Array Value) : Prop where
  size : t.size = 340
  s7 : t[7]? = some (.pointer (some ⟨B + 1, 0, none⟩))
  s10 : t[10]? = some (.pointer (some ⟨B + 3, 0, none⟩))
  s11 : t[11]? = some (.pointer (some ⟨B + 5, 0, none⟩))
  s13 : t[13]? = some (.func (.func 7) #[] #[.pointer (some ⟨B + 6, 0, none⟩), .pointer (some ⟨B, 0, none⟩)])
  s14 : t[14]? = some (.pointer (some ⟨B + 7, 0, none⟩))
  s15 : t[15]? = some (.pointer (some ⟨B + 8, 0, none⟩))
  s16 : t[16]? = some (.pointer (some ⟨B + 9, 0, none⟩))
  s17 : t[17]? = some (.func (.func 9) #[] #[.pointer (some ⟨B + 3, 0, none⟩), .pointer (some ⟨B + 1, 0, none⟩)])
  s18 : t[18]? = some (.func (.func 10) #[] #[.pointer (some ⟨B + 9, 0, none⟩), .pointer (some ⟨B + 7, 0, none⟩), .pointer (some ⟨B + 8, 0, none⟩), .pointer (some ⟨B + 5, 0, none⟩)])
  s19 : t[19]? = some (.func (.func 11) #[] #[.pointer (some ⟨B + 7, 0, none⟩), .pointer (some ⟨B + 5, 0, none⟩)])
  s20 : t[20]? = some (.func (.func 12) #[] #[.pointer (some ⟨B + 7, 0, none⟩), .pointer (some ⟨B + 5, 0, none⟩)])
  s47 : t[47]? = some ov
  s48 : t[48]? = some (.int .i64 ol)
  s49 : t[49]? = some (.int .i64 k)
theorem Fr4.fx {B ob oo ol oc k : Nat} {t : Array Value} (h : Fr4 B ob oo ol oc k t) : Fx4 B (.slice (some ⟨ob, oo, none⟩) ol oc) ol k t :=
  ⟨h.size, h.s7, h.s10, h.s11, h.s13, h.s14, h.s15, h.s16, h.s17, h.s18, h.s19, h.s20, h.s47, h.s48, h.s49⟩

/-- The slots by their numbers. -/
def slot4 (B : Nat) (ov : Value) (ol k : Nat) (u : Nat → Value) : Nat → Value
  | 7 => .pointer (some ⟨B + 1, 0, none⟩)
  | 10 => .pointer (some ⟨B + 3, 0, none⟩)
  | 11 => .pointer (some ⟨B + 5, 0, none⟩)
  | 13 => .func (.func 7) #[] #[.pointer (some ⟨B + 6, 0, none⟩), .pointer (some ⟨B, 0, none⟩)]
  | 14 => .pointer (some ⟨B + 7, 0, none⟩)
  | 15 => .pointer (some ⟨B + 8, 0, none⟩)
  | 16 => .pointer (some ⟨B + 9, 0, none⟩)
  | 17 => .func (.func 9) #[] #[.pointer (some ⟨B + 3, 0, none⟩), .pointer (some ⟨B + 1, 0, none⟩)]
  | 18 => .func (.func 10) #[] #[.pointer (some ⟨B + 9, 0, none⟩), .pointer (some ⟨B + 7, 0, none⟩), .pointer (some ⟨B + 8, 0, none⟩), .pointer (some ⟨B + 5, 0, none⟩)]
  | 19 => .func (.func 11) #[] #[.pointer (some ⟨B + 7, 0, none⟩), .pointer (some ⟨B + 5, 0, none⟩)]
  | 20 => .func (.func 12) #[] #[.pointer (some ⟨B + 7, 0, none⟩), .pointer (some ⟨B + 5, 0, none⟩)]
  | 47 => ov
  | 48 => .int .i64 ol
  | 49 => .int .i64 k
  | n => u n
set_option maxRecDepth 100000 in
def fr4x (B : Nat) (ov : Value) (ol k : Nat) (u : Nat → Value) : Array Value := #[u 0, u 1, u 2, u 3, u 4, u 5, u 6, .pointer (some ⟨B + 1, 0, none⟩), u 8, u 9, .pointer (some ⟨B + 3, 0, none⟩), .pointer (some ⟨B + 5, 0, none⟩), u 12, .func (.func 7) #[] #[.pointer (some ⟨B + 6, 0, none⟩), .pointer (some ⟨B, 0, none⟩)], .pointer (some ⟨B + 7, 0, none⟩), .pointer (some ⟨B + 8, 0, none⟩), .pointer (some ⟨B + 9, 0, none⟩), .func (.func 9) #[] #[.pointer (some ⟨B + 3, 0, none⟩), .pointer (some ⟨B + 1, 0, none⟩)], .func (.func 10) #[] #[.pointer (some ⟨B + 9, 0, none⟩), .pointer (some ⟨B + 7, 0, none⟩), .pointer (some ⟨B + 8, 0, none⟩), .pointer (some ⟨B + 5, 0, none⟩)], .func (.func 11) #[] #[.pointer (some ⟨B + 7, 0, none⟩), .pointer (some ⟨B + 5, 0, none⟩)], .func (.func 12) #[] #[.pointer (some ⟨B + 7, 0, none⟩), .pointer (some ⟨B + 5, 0, none⟩)], u 21, u 22, u 23, u 24, u 25, u 26, u 27, u 28, u 29, u 30, u 31, u 32, u 33, u 34, u 35, u 36, u 37, u 38, u 39, u 40, u 41, u 42, u 43, u 44, u 45, u 46, ov, .int .i64 ol, .int .i64 k, u 50, u 51, u 52, u 53, u 54, u 55, u 56, u 57, u 58, u 59, u 60, u 61, u 62, u 63, u 64, u 65, u 66, u 67, u 68, u 69, u 70, u 71, u 72, u 73, u 74, u 75, u 76, u 77, u 78, u 79, u 80, u 81, u 82, u 83, u 84, u 85, u 86, u 87, u 88, u 89, u 90, u 91, u 92, u 93, u 94, u 95, u 96, u 97, u 98, u 99, u 100, u 101, u 102, u 103, u 104, u 105, u 106, u 107, u 108, u 109, u 110, u 111, u 112, u 113, u 114, u 115, u 116, u 117, u 118, u 119, u 120, u 121, u 122, u 123, u 124, u 125, u 126, u 127, u 128, u 129, u 130, u 131, u 132, u 133, u 134, u 135, u 136, u 137, u 138, u 139, u 140, u 141, u 142, u 143, u 144, u 145, u 146, u 147, u 148, u 149, u 150, u 151, u 152, u 153, u 154, u 155, u 156, u 157, u 158, u 159, u 160, u 161, u 162, u 163, u 164, u 165, u 166, u 167, u 168, u 169, u 170, u 171, u 172, u 173, u 174, u 175, u 176, u 177, u 178, u 179, u 180, u 181, u 182, u 183, u 184, u 185, u 186, u 187, u 188, u 189, u 190, u 191, u 192, u 193, u 194, u 195, u 196, u 197, u 198, u 199, u 200, u 201, u 202, u 203, u 204, u 205, u 206, u 207, u 208, u 209, u 210, u 211, u 212, u 213, u 214, u 215, u 216, u 217, u 218, u 219, u 220, u 221, u 222, u 223, u 224, u 225, u 226, u 227, u 228, u 229, u 230, u 231, u 232, u 233, u 234, u 235, u 236, u 237, u 238, u 239, u 240, u 241, u 242, u 243, u 244, u 245, u 246, u 247, u 248, u 249, u 250, u 251, u 252, u 253, u 254, u 255, u 256, u 257, u 258, u 259, u 260, u 261, u 262, u 263, u 264, u 265, u 266, u 267, u 268, u 269, u 270, u 271, u 272, u 273, u 274, u 275, u 276, u 277, u 278, u 279, u 280, u 281, u 282, u 283, u 284, u 285, u 286, u 287, u 288, u 289, u 290, u 291, u 292, u 293, u 294, u 295, u 296, u 297, u 298, u 299, u 300, u 301, u 302, u 303, u 304, u 305, u 306, u 307, u 308, u 309, u 310, u 311, u 312, u 313, u 314, u 315, u 316, u 317, u 318, u 319, u 320, u 321, u 322, u 323, u 324, u 325, u 326, u 327, u 328, u 329, u 330, u 331, u 332, u 333, u 334, u 335, u 336, u 337, u 338, u 339]
set_option maxRecDepth 100000 in
theorem fr4_x (B ob oo ol oc k : Nat) (u : Nat → Value) : fr4 B ob oo ol oc k u = fr4x B (.slice (some ⟨ob, oo, none⟩) ol oc) ol k u := rfl
set_option maxRecDepth 100000 in
theorem fr4x_eq (B : Nat) (ov : Value) (ol k : Nat) (u : Nat → Value) : fr4x B ov ol k u = ((List.range 340).map (slot4 B ov ol k u)).toArray := by
  kernel_rfl
theorem arr_lit {t : Array Value} {f : Nat → Value} (hs : t.size = 340) (h : ∀ i, i < 340 → t[i]? = some (f i)) : t = ((List.range 340).map f).toArray := by
  apply Array.ext_getElem?
  intro i
  by_cases hi : i < 340
  · rw [h i hi]; simp [hi]
  · rw [Array.getElem?_eq_none (by omega), Array.getElem?_eq_none (by simp; omega)]
theorem Fx4.slots {B : Nat} {ov : Value} {ol k : Nat} {t : Array Value} (h : Fx4 B ov ol k t) : t = ((List.range 340).map (slot4 B ov ol k fun i => t.getD i undef)).toArray := by
  refine arr_lit h.size fun i hi => ?_
  have hg : t[i]? = some (t.getD i undef) := by simp [Array.getD, h.size, hi]
  unfold slot4
  split
  · exact h.s7
  · exact h.s10
  · exact h.s11
  · exact h.s13
  · exact h.s14
  · exact h.s15
  · exact h.s16
  · exact h.s17
  · exact h.s18
  · exact h.s19
  · exact h.s20
  · exact h.s47
  · exact h.s48
  · exact h.s49
  · exact hg
theorem Fx4.lit {B : Nat} {ov : Value} {ol k : Nat} {t : Array Value} (h : Fx4 B ov ol k t) : t = fr4x B ov ol k fun i => t.getD i undef := by
  rw [fr4x_eq]; exact h.slots

set_option maxRecDepth 100000 in
set_option maxHeartbeats 2000000 in
theorem case_exit {B ol k : Nat} {ov : Value} {w : World} {u : Nat → Value} {Q : Exit → Act → World → Prop} (hk : ol ≤ k) (hol : k ≤ 40) (hQ : ∀ t, Fx4 B ov ol k t → Q (.exit 0) ⟨t, []⟩ w) :
    Code.wp Tryz.prog body4 Q ⟨fr4x B ov ol k u, []⟩ w := by
  have HQ := Lib.hid hQ
  clear hQ
  conv => arg 2; whnf
  unfold fr4x
  go_wp2_with fail
  exact HQ.out _ ⟨rfl, rfl, rfl, rfl, rfl, rfl, rfl, rfl, rfl, rfl, rfl, rfl, rfl, rfl, rfl⟩
end Go.Proofs.YtoanpkfekhkaoaaGreatDoor
