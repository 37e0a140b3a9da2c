/- Laws on Read. -/
import Derived.Test.YtgjaeggpaomoaaaDoorLines
import Derived.Test.YtgjaeggpaomoaaaDoorParts
import Derived.Deep.OwnRows
namespace Go.Proofs.YtgjaeggpaomoaaaDoor
open Go.RowKit
set_option linter.unusedVariables false
attribute [local go_sem ↓] Go.wp_at_zero Go.wp_at_succ
/-- What the k-th read returns. -/
def readc (l : List UInt8) (zs : List Nat) (k : Nat) : List UInt8 × Bool := (chunk l zs k, (l.drop (tot zs k)).isEmpty && decide (0 < zs.getD k 0))
theorem readc_eq (l : List UInt8) (zs : List Nat) (k z : Nat) (h : zs[k]? = some z) : readc l zs k = ((l.drop (tot zs k)).take z, (l.drop (tot zs k)).isEmpty && decide (0 < z)) := by
  have := chunk_eq l zs k z h
  obtain ⟨hk, rfl⟩ := List.getElem?_eq_some_iff.1 h
  rw [readc, this]
  simp [List.getD, hk]

theorem row_made (w : World) (n : Nat) : Row (w.alloc (.cells (madeCells #[.int .u8 0] n) 5)) w.heap.size (List.replicate n 0) := by
  refine ⟨0, 0, ?_, .inl (Nat.le_refl _)⟩
  rw [heap_alloc_new]
  congr 2
  apply Array.ext
  · simp [madeCells, bvs]
  · intro i h1 h2
    simp [madeCells, bvs, bv, Nat.mod_one]

end Go.Proofs.YtgjaeggpaomoaaaDoor
