/- Laws on the space of a buffer. -/
import Derived.Test.YtgniidnbpkhmcaaDoorSpec
import Derived.Deep.RegionWith
import Derived.Deep.DrawnRows
namespace Go.Proofs.YtgniidnbpkhmcaaDoor
open Go.RowKit
set_option linter.unusedVariables false
attribute [local go_sem ↓] Go.wp_at_zero Go.wp_at_succ

theorem impl_space {b : Nat} {g : Option Nat} {row : List UInt8} {len off : Nat} {lr : Int} (w : World) (h : Buf w b g row len off lr) :
    Calls Tryd.prog 37 #[.pointer (some ⟨b, 0, none⟩)] w fun e w' => ∃ m a c : Nat, e = .returned (.agg #[.int .i64 m, .int .i64 c, .int .i64 a, .int .i64 0, .int .i64 a]) ∧ Hid (m = len - off ∧ c = row.length ∧ a = row.length - len) ∧ Fr [] w w' := by
  go_enter Tryd.func37, Tryd.ntmps37
  go_wp2_with fail
  refine (Buffer_AvailableBuffer _ (h.alloc _)).mono ?_
  rintro e w1 ⟨A, c1, rfl, H1, k1, rfl⟩
  go_wp2_with fail
  refine (Buffer_Len _ ((h.alloc _).drewN _)).mono ?_
  rintro e w2 ⟨rfl, k2, rfl⟩
  go_wp2_with fail
  refine (Buffer_Cap _ ((h.alloc _).drewN _)).mono ?_
  rintro e w2 ⟨rfl, rfl⟩
  go_wp2_with fail
  refine (Buffer_Available _ ((h.alloc _).drewN _)).mono ?_
  rintro e w2 ⟨rfl, k3, rfl⟩
  go_wp2_with fail
  obtain rfl := H1.out.2
  refine bodyPost_ret (v := .agg #[.int .i64 ((len - off : Nat) : Int), .int .i64 (row.length : Int), .int .i64 ((row.length - len : Nat) : Int), .int .i64 0, .int .i64 ((row.length - len : Nat) : Int)]) (by simp [results, Tryd.results37, go_sem]) rfl ⟨_, _, _, rfl, ⟨rfl, rfl, rfl⟩, ?_⟩
  exact (((((((Fr.refl [] w).alloc _).drewN _).setCell (.inr (Nat.le_refl _)) _).setCell (.inr (Nat.le_refl _)) _).setCell (.inr (Nat.le_refl _)) _).setCell (.inr (Nat.le_refl _)) _).setCell (.inr (Nat.le_refl _)) _

/-- A struct of five ints in a block of its own, as the walk wants it. -/
theorem space_cells {w : World} {k : Nat} {t : TypeId} (h : Blk w k t #[.int .i64 0, .int .i64 0, .int .i64 0, .int .i64 0, .int .i64 0]) :
    (w.cell? ⟨k, 0, none⟩ = some (.int .i64 0) ∧ w.cell? ⟨k, 1, none⟩ = some (.int .i64 0) ∧ w.cell? ⟨k, 2, none⟩ = some (.int .i64 0) ∧ w.cell? ⟨k, 3, none⟩ = some (.int .i64 0) ∧ w.cell? ⟨k, 4, none⟩ = some (.int .i64 0)) ∧
    (w.frozen? ⟨k, 0, none⟩ = false ∧ w.frozen? ⟨k, 1, none⟩ = false ∧ w.frozen? ⟨k, 2, none⟩ = false ∧ w.frozen? ⟨k, 3, none⟩ = false ∧ w.frozen? ⟨k, 4, none⟩ = false) :=
  ⟨⟨h.cell 0, h.cell 1, h.cell 2, h.cell 3, h.cell 4⟩, h.frozen 0, h.frozen 1, h.frozen 2, h.frozen 3, h.frozen 4⟩

theorem bytes_zero (n : Nat) : madeCells #[Value.int .u8 0] n = bvs (List.replicate n 0) := by
  apply Array.ext'
  rw [toList_madeCells_one]
  simp [bvs, bv]

end Go.Proofs.YtgniidnbpkhmcaaDoor
