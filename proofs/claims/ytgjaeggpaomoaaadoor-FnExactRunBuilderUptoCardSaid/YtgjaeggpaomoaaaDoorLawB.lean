/- Laws on the space of a buffer. -/
import Derived.Test.YtgjaeggpaomoaaaDoorSpec
import Derived.Deep.RegionWith
import Derived.Deep.DrawnRows
namespace Go.Proofs.YtgjaeggpaomoaaaDoor
open Go.RowKit
set_option linter.unusedVariables false
attribute [local go_sem ↓] Go.wp_at_zero Go.wp_at_succ
/-- A struct of five ints in a block of its own, as the walk wants it. -/
theorem space_cells {w : World} {k : Nat} {t : TypeId} (h : Blk w k t #[.int .i64 0, .int .i64 0, .int .i64 0, .int .i64 0, .int .i64 0]) :
    (w.cell? ⟨k, 0, none⟩ = some (.int .i64 0) ∧ w.cell? ⟨k, 1, none⟩ = some (.int .i64 0) ∧ w.cell? ⟨k, 2, none⟩ = some (.int .i64 0) ∧ w.cell? ⟨k, 3, none⟩ = some (.int .i64 0) ∧ w.cell? ⟨k, 4, none⟩ = some (.int .i64 0)) ∧
    (w.frozen? ⟨k, 0, none⟩ = false ∧ w.frozen? ⟨k, 1, none⟩ = false ∧ w.frozen? ⟨k, 2, none⟩ = false ∧ w.frozen? ⟨k, 3, none⟩ = false ∧ w.frozen? ⟨k, 4, none⟩ = false) :=
  ⟨⟨h.cell 0, h.cell 1, h.cell 2, h.cell 3, h.cell 4⟩, h.frozen 0, h.frozen 1, h.frozen 2, h.frozen 3, h.frozen 4⟩

theorem bytes_zero (n : Nat) : madeCells #[Value.int .u8 0] n = bvs (List.replicate n 0) := by
  apply Array.ext'
  rw [toList_madeCells_one]
  simp [bvs, bv]

end Go.Proofs.YtgjaeggpaomoaaaDoor
