/-
  The contracts of Clone and of pointOf. Conditions: as each theorem names them.
-/
import Derived.Test.YtoanpkfekhkaoaaGreatDoorIntJ
import Derived.Test.YtoanpkfekhkaoaaGreatDoorSpecA
import Derived.Deep.DrawnRows
import Derived.Deep.Cut
namespace Go.Proofs.YtoanpkfekhkaoaaGreatDoor
open Go Go.RowKit
section
variable {g n c base : Nat} {w : World} {L : List Int}
theorem ByteBlk.of_own {v : Value} {m : Nat} (h : w.ownsRow base 5 1 v m (u8s L)) (hm : 0 < m) (hL : L.length = m) : ∃ g c, v = .slice (some ⟨g, 0, none⟩) m c ∧ base ≤ g ∧ g < w.heap.size ∧ m ≤ c ∧ c ≤ 9223372036854775807 ∧ ByteBlk g L w := by
  obtain ⟨_, h⟩ := h
  rcases h with ⟨_, hh⟩ | ⟨g, cap, cur, rfl, hb, hg, hk, hcm, hs, ht⟩
  · omega
  · refine ⟨g, cap, rfl, hb, blk_lt hg, hk, hcm, cur, (0, 0), hg, fun i x hx => ?_⟩
    have hi := (List.getElem?_eq_some_iff.1 hx).1
    have h1 : (u8s L)[i]? = some (.int .u8 x) := by simp [u8s, hx]
    rw [← ht, List.getElem?_take, if_pos (by omega)] at h1
    simpa using h1
attribute [local go_sem ↓] Go.wp_at_zero Go.wp_at_succ
set_option maxRecDepth 100000 in
theorem clone_c (hby : ByteBlk g L w) (hn : L.length = n) (h0 : 0 < n) (h1 : n ≤ 1000000) :
    Calls Tryz.prog 14 #[.slice (some ⟨g, 0, none⟩) n c] w (fun e w' => ∃ g' c', e = .returned (.slice (some ⟨g', 0, none⟩) n c') ∧ w.heap.size ≤ g' ∧ g' < w'.heap.size ∧ n ≤ c' ∧ c' ≤ 9223372036854775807 ∧ ByteBlk g' L w' ∧ Below w.heap.size w w') := by
  obtain ⟨i0, hi, hz0, hz1, hz2⟩ := info_parts info5
  have hown : (w.alloc (.cells #[] 5)).ownsRow w.heap.size 5 1 (.slice (some ⟨w.heap.size, 0, none⟩) 0 0) 0 [] := own_new w w.heap.size 5 1 0 #[] (Nat.le_refl _) rfl (by unfold maxLen; omega)
  obtain ⟨cur, m, hb1, hb2⟩ := hby
  have hlt := blk_lt hb1
  have hcell : ∀ j u, (u8s L)[j]? = some u → (w.alloc (.cells #[] 5)).cell? ((⟨g, 0, none⟩ : Addr).add j) = some u := by
    intro j u hj
    rw [Addr.add_lit, Nat.zero_add, cell_past hlt, blk_cell hb1]
    simp only [u8s, List.getElem?_map, Option.map_eq_some_iff] at hj
    obtain ⟨x, hx, rfl⟩ := hj
    exact hb2 j x hx
  clear hb1 hb2
  have hbe : ∀ W' : World, (binOp .eql 22 (.slice (some ⟨g, 0, none⟩) n c) (.slice none 0 0)).run Tryz.prog W' = .ok (.bool false) W' := fun _ => by first | kernel_rfl | rfl
  go_enter Tryz.func14, Tryz.ntmps14
  go_wp2_with (at_builtin; go_loud (refine wpList_append_own _ rfl _ _ 22 rfl w.heap.size 5 i0 (.int .u8 0) 1 1 und22 hi hz0 hz1 hz2 rfl (by decide) _ 0 [] rfl hown ⟨g, 0, none⟩ n c (u8s L) rfl (by simp [u8s, hn]) hcell (fun u hu => by simp only [u8s, List.mem_map] at hu; obtain ⟨_, _, rfl⟩ := hu; rfl) (by unfold maxLen; omega) (by first | omega | simp) (by first | omega | simp) ?_))
  intro v' w1 hown2 hgrow _
  (try simp only [List.nil_append, Nat.zero_add] at hown2)
  obtain ⟨g', c', rfl, k1, k2, k3, k4, k5⟩ := ByteBlk.of_own hown2 h0 hn
  have hbel : Below w.heap.size w w1 := ((Below.refl w.heap.size w).alloc (Nat.le_refl _) _).grown hgrow (by simp) (fun k hk => by cases hk; exact Nat.le_refl _)
  go_wp2_with fail
  go_ret
  exact ⟨g', c', rfl, k1, k2, k3, k4, k5, hbel⟩
set_option maxRecDepth 100000 in
theorem point_c (w : World) (x y : Int) (hx : -2000000 ≤ x ∧ x ≤ 2000000) (hy : -2000000 ≤ y ∧ y ≤ 2000000) :
    Calls Tryz.prog 19 #[.agg #[.int .i32 x, .int .i32 y]] w (fun e w' => e = .returned (.agg #[.int .i64 x, .int .i64 y]) ∧ Below w.heap.size w w') := by
  obtain ⟨x0, x1⟩ := hx
  obtain ⟨y0, y1⟩ := hy
  go_enter Tryz.func19, Tryz.ntmps19
  go_wp2_with fail
  refine ⟨rfl, .agg #[.int .i64 x, .int .i64 y], ?_, rfl, ?_⟩
  · first
    | (go_simp; done)
    | (unfold results; go_simp; done)
    | (simp [results]; done)
  · exact ((Below.refl _ w).alloc (Nat.le_refl _) _).alloc (by simp) _
end
end Go.Proofs.YtoanpkfekhkaoaaGreatDoor
