/-
  The contracts of the reference's helpers two and Numeral: what a call answers and what it leaves alone. No condition beyond the shape of the arguments in each theorem.
-/
import Derived.Test.YtoanpkfekhkaoaaGreatDoorRows
import Derived.Test.YtoanpkfekhkaoaaGreatDoorBase
import Derived.Deep.QuietTactic
import Derived.BigQuiet
import Derived.Lib.Hide
namespace Go.Proofs.YtoanpkfekhkaoaaGreatDoor
open Go Go.RowKit

theorem info5 : (Tryz.prog.info? 5).map (fun i => (i.zero, i.size, i.bytes)) = some (some (.int .u8 0), 1, 1) := by kernel_rfl
theorem und22 : Tryz.prog.underlying 22 = some (.slice 5) := by kernel_rfl
theorem info41 : (Tryz.prog.info? 41).map (fun i => (i.zero, i.size, i.bytes)) = some (some (.agg #[.int .i64 0, .slice none 0 0]), 2, 32) := by kernel_rfl
theorem und24 : Tryz.prog.underlying 24 = some (.slice 41) := by kernel_rfl

theorem own_new (w : World) (base : Nat) (e : TypeId) (size n : Nat) (cur : Array Value) (hb : base ≤ w.heap.size) (hs : cur.size = n * size) (hm : n ≤ maxLen) :
    (w.alloc (.cells cur e)).ownsRow base e size (.slice (some ⟨w.heap.size, 0, none⟩) n n) n cur.toList :=
  ⟨by simpa using hs, .inr ⟨w.heap.size, n, cur, rfl, hb, heap_alloc_new w _, Nat.le_refl _, hm, hs, by rw [← hs]; exact List.take_of_length_le (by simp)⟩⟩

set_option maxHeartbeats 400000 in
theorem two_any (v : Int) (w : World) (h0 : -32768 ≤ v) (h1 : v ≤ 32767) :
    Calls Tryz.prog 16 #[.int .i64 v] w fun e w' => e = .returned (.slice (some ⟨w.heap.size, 0, none⟩) 2 2) ∧ w' = w.alloc (.cells #[.int .u8 (v / 256 % 256), .int .u8 (v % 256)] 5) := by
  go_enter Tryz.func16, Tryz.ntmps16
  go_wp2
  go_ret
  exact ⟨rfl, rfl⟩

def NumPost (w : World) (wide : Bool) (v : Int) (e : Ending) (w' : World) : Prop :=
  ∃ g c, e = .returned (.slice (some ⟨g, 0, none⟩) (enc wide v).length c) ∧
    w'.ownsRow w.heap.size 5 1 (.slice (some ⟨g, 0, none⟩) (enc wide v).length c) (enc wide v).length (u8s (enc wide v)) ∧ w.grownBy w' none

theorem num_close {w : World} {wide : Bool} {v : Int} {cur : Array Value} (h : cur.toList = u8s (enc wide v)) :
    NumPost w wide v (.returned (.slice (some ⟨w.heap.size, 0, none⟩) cur.size cur.size)) (w.alloc (.cells cur 5)) := by
  have hl : cur.size = (enc wide v).length := by rw [← Array.length_toList, h, u8s_length]
  have := own_new w w.heap.size 5 1 cur.size cur (Nat.le_refl _) (by omega) (by
    have : (enc wide v).length ≤ 3 := by unfold enc; split <;> (try split) <;> (try split) <;> simp
    unfold maxLen; omega)
  rw [h, hl] at this
  exact ⟨w.heap.size, _, by rw [hl], this, World.grownBy_alloc w _ none⟩

set_option maxHeartbeats 400000 in
theorem numeral_small (v : Int) (w : World) (h0 : -107 ≤ v) (h1 : v ≤ 107) :
    Calls Tryz.prog 8 #[.int .i64 v, .bool false] w (NumPost w false v) := by
  go_enter Tryz.func8, Tryz.ntmps8
  go_wp2
  go_ret
  refine num_close (cur := #[_]) ?_
  simp [enc, h0, h1, u8s]
  try omega
set_option maxHeartbeats 400000 in
theorem numeral_up (v : Int) (w : World) (h0 : 108 ≤ v) (h1 : v ≤ 499) :
    Calls Tryz.prog 8 #[.int .i64 v, .bool false] w (NumPost w false v) := by
  go_enter Tryz.func8, Tryz.ntmps8
  go_wp2
  go_ret
  refine num_close (cur := #[_, _]) ?_
  have e1 : ¬ (-107 ≤ v ∧ v ≤ 107) := by omega
  simp [enc, e1, h0, u8s]
  try omega
set_option maxHeartbeats 400000 in
theorem numeral_down (v : Int) (w : World) (h0 : -499 ≤ v) (h1 : v ≤ -108) :
    Calls Tryz.prog 8 #[.int .i64 v, .bool false] w (NumPost w false v) := by
  go_enter Tryz.func8, Tryz.ntmps8
  go_wp2
  go_ret
  refine num_close (cur := #[_, _]) ?_
  have e1 : ¬ (-107 ≤ v ∧ v ≤ 107) := by omega
  have e2 : ¬ 108 ≤ v := by omega
  simp [enc, e1, e2, u8s]
  try omega
set_option maxHeartbeats 400000 in
theorem numeral_wide (v : Int) (w : World) (h0 : -499 ≤ v) (h1 : v ≤ 499) :
    Calls Tryz.prog 8 #[.int .i64 v, .bool true] w (NumPost w true v) := by
  obtain ⟨i0, hi, hz0, hz1, hz2⟩ := info_parts info5
  have hown := own_new w w.heap.size 5 1 1 #[.int .u8 28] (Nat.le_refl _) rfl (by decide)
  go_enter Tryz.func8, Tryz.ntmps8
  go_wp2_with (first
    | (go_at_call 16; refine (two_any _ _ (by omega) (by omega)).mono ?_; rintro e w' ⟨rfl, rfl⟩)
    | (at_builtin; refine wpList_append_own _ rfl _ _ 22 rfl w.heap.size 5 i0 (.int .u8 0) 1 1 und22 hi hz0 hz1 hz2 rfl (by decide) (.slice (some ⟨w.heap.size, 0, none⟩) 1 1) 1 [.int .u8 28] rfl (hown.alloc _) ⟨w.heap.size + 1, 0, none⟩ 2 2 [.int .u8 (v / 256 % 256), .int .u8 (v % 256)] rfl rfl ?c1 ?c2 ?c3 ?c4 ?c5 ?_))
  case c1 =>
    intro j u hj
    match j, hj with
    | 0, hj => simp at hj; subst hj; simp [Addr.add, go_sem]
    | 1, hj => simp at hj; subst hj; simp [Addr.add, go_sem]
  case c2 => intro u hu; simp at hu; rcases hu with rfl | rfl <;> rfl
  case c3 => decide
  case c4 => decide
  case c5 => simp; omega
  intro v' w1 hown' hgrow hnn
  have hsh : ∃ g c, v' = .slice (some ⟨g, 0, none⟩) 3 c := by
    rcases hown'.2 with ⟨_, hh⟩ | ⟨g, cap, cur, hv, _⟩
    · omega
    · exact ⟨g, cap, hv⟩
  obtain ⟨g, c, hv⟩ := hsh
  have hg2 : w.grownBy w1 none := ⟨hgrow.os, hgrow.tape, hgrow.output, by have := hgrow.size; simp at this; omega, fun k hk _ => by
    rw [hgrow.block k (by simp; omega) (by simp [Value.ownBlock]; omega), blk_alloc _ (by simp; omega), blk_alloc _ hk]⟩
  have HV := Lib.hid hv
  clear hv hgrow hnn
  go_wp2
  go_ret
  refine ⟨g, c, by rw [HV.out]; rfl, ?_, hg2⟩
  rw [HV.out] at hown'
  simpa [enc, u8s] using hown'

theorem numeral_any (v : Int) (b : Bool) (w : World) (h0 : -499 ≤ v) (h1 : v ≤ 499) :
    Calls Tryz.prog 8 #[.int .i64 v, .bool b] w (NumPost w b v) := by
  cases b with
  | true => exact numeral_wide v w h0 h1
  | false =>
    by_cases h : v ≤ -108
    · exact numeral_down v w h0 h
    · by_cases h' : v ≤ 107
      · exact numeral_small v w (by omega) h'
      · exact numeral_up v w (by omega) h1

end Go.Proofs.YtoanpkfekhkaoaaGreatDoor
