/-
  The contract of the making of the table of operators: which function each operator's byte names. No condition.
-/
import Derived.Test.YtoanpkfekhkaoaaGreatDoorIntB
import Derived.Laws.Rows
namespace Go.Proofs.YtoanpkfekhkaoaaGreatDoor
open Go Go.RowKit
attribute [local go_sem ↓] Go.wp_at_zero Go.wp_at_succ

/-- The table's rows that the claim reaches: the operator's byte, its name, its function. -/
def tabRows : List (Nat × Array UInt8 × Nat) := [(4, #[118, 109, 111, 118, 101, 116, 111], 34), (5, #[114, 108, 105, 110, 101, 116, 111], 35), (6, #[104, 108, 105, 110, 101, 116, 111], 36), (7, #[118, 108, 105, 110, 101, 116, 111], 37), (8, #[114, 114, 99, 117, 114, 118, 101, 116, 111], 38), (14, #[101, 110, 100, 99, 104, 97, 114], 41), (21, #[114, 109, 111, 118, 101, 116, 111], 43), (22, #[104, 109, 111, 118, 101, 116, 111], 44), (24, #[114, 99, 117, 114, 118, 101, 108, 105, 110, 101], 45), (25, #[114, 108, 105, 110, 101, 99, 117, 114, 118, 101], 46), (26, #[118, 118, 99, 117, 114, 118, 101, 116, 111], 47), (27, #[104, 104, 99, 117, 114, 118, 101, 116, 111], 48), (30, #[118, 104, 99, 117, 114, 118, 101, 116, 111], 50), (31, #[104, 118, 99, 117, 114, 118, 101, 116, 111], 51)]
def TabAt (T : Nat) (w : World) : Prop := ∃ cur m, w.heap[T]? = some (.cells cur 123 m) ∧ ∀ r ∈ tabRows, cur[3 * r.1]? = some (.int .i32 (-1)) ∧ cur[3 * r.1 + 1]? = some (.string ⟨r.2.1⟩) ∧ cur[3 * r.1 + 2]? = some (.func (.func r.2.2) #[] #[])
theorem TabAt.mk {W0 : World} {o2 o3 : Obj} {cur : Array Value} {m : Nat × Nat} {n : Nat} (hn : n = W0.heap.size)
    (h : ∀ r ∈ tabRows, cur[3 * r.1]? = some (.int .i32 (-1)) ∧ cur[3 * r.1 + 1]? = some (.string ⟨r.2.1⟩) ∧ cur[3 * r.1 + 2]? = some (.func (.func r.2.2) #[] #[])) : TabAt n (((W0.alloc (.cells cur 123 m)).alloc o2).alloc o3) :=
  ⟨cur, m, by rw [blk_alloc _ (by simp; omega), blk_alloc _ (by simp; omega)]; exact blk_at _ _ hn, h⟩
def TabPost (w : World) (e : Ending) (w' : World) : Prop :=
  e = .returned (.agg #[.slice (some ⟨w.heap.size + 5, 0, none⟩) 32 32, .slice (some ⟨w.heap.size + 6, 0, none⟩) 37 37]) ∧ Below w.heap.size w w' ∧ w.heap.size + 8 ≤ w'.heap.size ∧ TabAt (w.heap.size + 5) w'
set_option maxRecDepth 100000 in
set_option maxHeartbeats 8000000 in
theorem tab_c (w : World) : Calls Tryz.prog 21 #[.int .u32 2] w (TabPost w) := by
  go_enter Tryz.func21, Tryz.ntmps21
  go_wp2_with fail
  refine ⟨rfl, .agg #[.slice (some ⟨w.heap.size + 5, 0, none⟩) 32 32, .slice (some ⟨w.heap.size + 6, 0, none⟩) 37 37], ?_, ?_⟩
  · first
    | (go_simp; done)
    | (unfold results; go_simp; done)
    | (simp [results]; done)
  · refine ⟨rfl, ?_, ?_, ?_⟩
    · first
      | (refine ⟨rfl, rfl, rfl, by simp <;> omega, fun k hk => ?_⟩
         repeat first | rw [blk_alloc _ (by (try simp only [World.size_alloc]); omega)] | rw [blk_set_ne _ _ (by omega)])
    · first
      | (simp only [World.size_alloc]; omega)
    · first
      | refine TabAt.mk (by simp only [World.size_alloc]) ?_
      | refine TabAt.mk (by (try simp only [World.size_alloc, World.size_setCell]); omega) ?_
      | refine TabAt.mk rfl ?_
      intro r hr
      simp only [tabRows, List.mem_cons, List.mem_nil_iff, or_false] at hr
      rcases hr with rfl | rfl | rfl | rfl | rfl | rfl | rfl | rfl | rfl | rfl | rfl | rfl | rfl | rfl
      all_goals first
        | exact ⟨rfl, rfl, rfl⟩
        | exact ⟨by kernel_rfl, by kernel_rfl, by kernel_rfl⟩
end Go.Proofs.YtoanpkfekhkaoaaGreatDoor
