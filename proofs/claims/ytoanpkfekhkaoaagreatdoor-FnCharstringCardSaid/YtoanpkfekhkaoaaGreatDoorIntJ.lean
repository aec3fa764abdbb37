/-
  What of memory is kept between two rounds.
-/
import Derived.Test.YtoanpkfekhkaoaaGreatDoorIntA
namespace Go.Proofs.YtoanpkfekhkaoaaGreatDoor
open Go Go.RowKit

/-- The bytes 'L' stand at the start of block 'g'. -/
def ByteBlk (g : Nat) (L : List Int) (w : World) : Prop := ∃ (cur : Array Value) (m : Nat × Nat), w.heap[g]? = some (.cells cur 5 m) ∧ ∀ (i : Nat) (v : Int), L[i]? = some v → cur[i]? = some (Value.int .u8 v)
section
variable {Bb lo g : Nat} {w : World} {L : List Int}
theorem ByteBlk.frm {w' : World} (h : ByteBlk g L w) (hF : PFrm Bb lo w w') (hg : g ≠ Bb) : ByteBlk g L w' := by
  obtain ⟨cur, m, h1, h2⟩ := h
  exact ⟨cur, m, (hF.blk g (blk_lt h1) hg fun _ => isTy.ne h1 (by decide)).trans h1, h2⟩
theorem ByteBlk.cell {i : Nat} {v : Int} (h : ByteBlk g L w) (hi : L[i]? = some v) : w.cell? ⟨g, i, none⟩ = some (.int .u8 v) := by
  obtain ⟨cur, m, h1, h2⟩ := h
  rw [blk_cell h1]; exact h2 i v hi

end
end Go.Proofs.YtoanpkfekhkaoaaGreatDoor
