/-
  The contracts of the reference's closures curve and closed. Conditions: the cells that the closure holds, as each theorem names them.
-/
import Derived.Test.YtoanpkfekhkaoaaGreatDoorSpecB
namespace Go.Proofs.YtoanpkfekhkaoaaGreatDoor
open Go Go.RowKit

section
variable {B : Nat} {ways : Int} {w0 : World} {s : SS} {w : World}

set_option maxHeartbeats 1000000 in
theorem curve_st {nv : Value} {a b c d e f : Int} (hS : SpecSt B nv ways w0 s w) (hx : -1000000 ≤ s.here.1 ∧ s.here.1 ≤ 1000000) (hy : -1000000 ≤ s.here.2 ∧ s.here.2 ≤ 1000000)
    (ha : -1000 ≤ a ∧ a ≤ 1000) (hb : -1000 ≤ b ∧ b ≤ 1000) (hc : -1000 ≤ c ∧ c ≤ 1000) (hd : -1000 ≤ d ∧ d ≤ 1000) (he : -1000 ≤ e ∧ e ≤ 1000) (hf : -1000 ≤ f ∧ f ≤ 1000) (hlen : s.path.length ≤ 100000) :
    Calls Tryz.prog 12 #[.int .i64 a, .int .i64 b, .int .i64 c, .int .i64 d, .int .i64 e, .int .i64 f, .pointer (some ⟨B + 7, 0, none⟩), .pointer (some ⟨B + 5, 0, none⟩)] w
      (StepTo B nv ways w0 { s with here := (s.here.1 + a + c + e, s.here.2 + b + d + f), path := s.path ++ [⟨3, [(s.here.1 + a, s.here.2 + b), (s.here.1 + a + c, s.here.2 + b + d), (s.here.1 + a + c + e, s.here.2 + b + d + f)]⟩] } w (.tuple #[])) := by
  obtain ⟨vp, xs, hp1, -, -⟩ := hS.pth
  have hbig := hS.big
  have hh1 : w.cell? ⟨B + 7, 0, none⟩ = some (.int .i64 s.here.1) := by rw [blk_cell hS.chere]; rfl
  have hh2 : w.cell? ⟨B + 7, 1, none⟩ = some (.int .i64 s.here.2) := by rw [blk_cell hS.chere]; rfl
  have hf1 : w.frozen? ⟨B + 7, 0, none⟩ = false := blk_free hS.chere 0
  have hf2 : w.frozen? ⟨B + 7, 1, none⟩ = false := blk_free hS.chere 1
  have hp : w.cell? ⟨B + 5, 0, none⟩ = some vp := by rw [blk_cell hp1]; rfl
  have h5 : B + 5 < w.heap.size := by omega
  have h7 : B + 7 < w.heap.size := by omega
  generalize hxx : s.here.1 = x at *
  generalize hyy : s.here.2 = y at *
  clear hp1 hxx hyy
  go_enter Tryz.func12, Tryz.ntmps12
  go_wp2_with (at_builtin; go_loud (refine wp_app_path (s := { s with here := (x + a + c + e, y + b + d + f) }) (sg := ⟨3, [(x + a, y + b), (x + a + c, y + b + d), (x + a + c + e, y + b + d + f)]⟩) (g := w.heap.size + 2) (a := w.heap.size + 3) (n := 3) (vp := vp) (by exact ((((hS.setHere _ _).alloc _).alloc _).alloc _).alloc _) (by (repeat first | rw [cell_past (by (try simp only [World.size_alloc, World.size_setCell, World.size_drew]); omega)] | rw [cell_set_ne (by omega)]); exact hp) hlen (by omega) (by rw [blk_alloc _ (by simp)]; exact blk_at _ _ (by simp)) rfl (blk_at _ _ (by simp)) rfl _ _ rfl rfl rfl ?_))
  intro g' n' c' w1 hS' hF' hc1 hf1
  go_wp2
  go_end0
  refine ⟨rfl, hS', SFrm.trans ?_ hF'⟩
  exact (SFrm.set _ _ _ _ (by omega)).trans ((SFrm.set _ _ _ _ (by omega)).trans ((SFrm.alloc _ _ _).trans ((SFrm.alloc _ _ _).trans ((SFrm.alloc _ _ _).trans (SFrm.alloc _ _ _)))))

set_option maxHeartbeats 1000000 in
theorem closed_t {nv : Value} (hS : SpecSt B nv ways w0 s w) (ho : s.opn = true) (hne : s.here = s.beg) :
    Calls Tryz.prog 10 #[.pointer (some ⟨B + 9, 0, none⟩), .pointer (some ⟨B + 7, 0, none⟩), .pointer (some ⟨B + 8, 0, none⟩), .pointer (some ⟨B + 5, 0, none⟩)] w
      (StepTo B nv ways w0 s w (.tuple #[])) := by
  have hh1 : w.cell? ⟨B + 7, 0, none⟩ = some (.int .i64 s.here.1) := by rw [blk_cell hS.chere]; rfl
  have hh2 : w.cell? ⟨B + 7, 1, none⟩ = some (.int .i64 s.here.2) := by rw [blk_cell hS.chere]; rfl
  have hb1 : w.cell? ⟨B + 8, 0, none⟩ = some (.int .i64 s.here.1) := by rw [blk_cell hS.cbeg, hne]; rfl
  have hb2 : w.cell? ⟨B + 8, 1, none⟩ = some (.int .i64 s.here.2) := by rw [blk_cell hS.cbeg, hne]; rfl
  have hop : w.cell? ⟨B + 9, 0, none⟩ = some (.bool true) := by rw [blk_cell hS.copn, ho]; rfl
  clear ho hne
  go_enter Tryz.func10, Tryz.ntmps10
  go_wp2
  go_end0
  exact ⟨rfl, hS, SFrm.refl _ _⟩

set_option maxHeartbeats 1000000 in
theorem closed_n {nv : Value} (hS : SpecSt B nv ways w0 s w) (ho : s.opn = false) :
    Calls Tryz.prog 10 #[.pointer (some ⟨B + 9, 0, none⟩), .pointer (some ⟨B + 7, 0, none⟩), .pointer (some ⟨B + 8, 0, none⟩), .pointer (some ⟨B + 5, 0, none⟩)] w
      (StepTo B nv ways w0 s w (.tuple #[])) := by
  have hop : w.cell? ⟨B + 9, 0, none⟩ = some (.bool false) := by rw [blk_cell hS.copn, ho]; rfl
  clear ho
  go_enter Tryz.func10, Tryz.ntmps10
  go_wp2
  go_end0
  exact ⟨rfl, hS, SFrm.refl _ _⟩

set_option maxHeartbeats 1000000 in
theorem closed_y {nv : Value} (hS : SpecSt B nv ways w0 s w) (ho : s.opn = true) (hne : s.here ≠ s.beg) (hlen : s.path.length ≤ 100000) :
    Calls Tryz.prog 10 #[.pointer (some ⟨B + 9, 0, none⟩), .pointer (some ⟨B + 7, 0, none⟩), .pointer (some ⟨B + 8, 0, none⟩), .pointer (some ⟨B + 5, 0, none⟩)] w
      (StepTo B nv ways w0 { s with path := s.path ++ [⟨1, [s.beg]⟩], here := s.beg } w (.tuple #[])) := by
  obtain ⟨vp, xs, hp1, -, -⟩ := hS.pth
  have hbig := hS.big
  have hh1 : w.cell? ⟨B + 7, 0, none⟩ = some (.int .i64 s.here.1) := by rw [blk_cell hS.chere]; rfl
  have hh2 : w.cell? ⟨B + 7, 1, none⟩ = some (.int .i64 s.here.2) := by rw [blk_cell hS.chere]; rfl
  have hb1 : w.cell? ⟨B + 8, 0, none⟩ = some (.int .i64 s.beg.1) := by rw [blk_cell hS.cbeg]; rfl
  have hb2 : w.cell? ⟨B + 8, 1, none⟩ = some (.int .i64 s.beg.2) := by rw [blk_cell hS.cbeg]; rfl
  have hf1 : w.frozen? ⟨B + 7, 0, none⟩ = false := blk_free hS.chere 0
  have hf2 : w.frozen? ⟨B + 7, 1, none⟩ = false := blk_free hS.chere 1
  have hop : w.cell? ⟨B + 9, 0, none⟩ = some (.bool true) := by rw [blk_cell hS.copn, ho]; rfl
  have hp : w.cell? ⟨B + 5, 0, none⟩ = some vp := by rw [blk_cell hp1]; rfl
  have h5 : B + 5 < w.heap.size := by omega
  have h7 : B + 7 < w.heap.size := by omega
  have h8 : B + 8 < w.heap.size := by omega
  have HN : Hid (s.here ≠ s.beg) := Lib.hid hne
  clear ho hp1 hne
  go_enter Tryz.func10, Tryz.ntmps10
  go_wp2_with (at_builtin; go_loud (refine wp_app_path (s := s) (sg := ⟨1, [s.beg]⟩) (g := w.heap.size) (a := w.heap.size + 1) (n := 1) (vp := vp) (by exact (hS.alloc _).alloc _) (by (repeat first | rw [cell_past (by (try simp only [World.size_alloc, World.size_setCell, World.size_drew]); omega)] | rw [cell_set_ne (by omega)]); exact hp) hlen (by omega) (by rw [blk_alloc _ (by simp)]; exact blk_at _ _ (by simp)) rfl (blk_at _ _ (by simp)) rfl _ _ rfl rfl rfl ?_))
  · rename_i e1 e2; exact absurd (Prod.ext e1 e2) HN.out
  all_goals
    intro g' n' c' w1 hS' hF' hc1 hg1
    have k1 : (w1.setCell ⟨B + 5, 0, none⟩ (.slice (some ⟨g', 0, none⟩) n' c')).cell? ⟨B + 8, 0, none⟩ = some (.int .i64 s.beg.1) := by rw [blk_cell hS'.cbeg]; rfl
    have k2 : (w1.setCell ⟨B + 5, 0, none⟩ (.slice (some ⟨g', 0, none⟩) n' c')).cell? ⟨B + 8, 1, none⟩ = some (.int .i64 s.beg.2) := by rw [blk_cell hS'.cbeg]; rfl
    have k3 : (w1.setCell ⟨B + 5, 0, none⟩ (.slice (some ⟨g', 0, none⟩) n' c')).frozen? ⟨B + 7, 0, none⟩ = false := blk_free hS'.chere 0
    have k4 : (w1.setCell ⟨B + 5, 0, none⟩ (.slice (some ⟨g', 0, none⟩) n' c')).frozen? ⟨B + 7, 1, none⟩ = false := blk_free hS'.chere 1
    have k5 : (w1.setCell ⟨B + 5, 0, none⟩ (.slice (some ⟨g', 0, none⟩) n' c')).cell? ⟨B + 7, 0, none⟩ = some (.int .i64 s.here.1) := by rw [blk_cell hS'.chere]; rfl
    have k6 : (w1.setCell ⟨B + 5, 0, none⟩ (.slice (some ⟨g', 0, none⟩) n' c')).cell? ⟨B + 7, 1, none⟩ = some (.int .i64 s.here.2) := by rw [blk_cell hS'.chere]; rfl
    go_wp2
    go_end0
    refine ⟨rfl, hS'.setHere _ _, SFrm.trans ?_ ((SFrm.set _ _ _ _ (by omega)).trans (SFrm.set _ _ _ _ (by omega)))⟩
    exact (SFrm.alloc _ _ _).trans ((SFrm.alloc _ _ _).trans hF')
end
end Go.Proofs.YtoanpkfekhkaoaaGreatDoor
