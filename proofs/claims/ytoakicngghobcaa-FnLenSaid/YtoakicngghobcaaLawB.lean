/- Laws on the space of a buffer. -/
import Derived.Test.YtoakicngghobcaaSpec
import Derived.Deep.RegionWith
import Derived.Deep.DrawnRows
namespace Go.Proofs.Ytoakicngghobcaa
open Go.RowKit
set_option linter.unusedVariables false
attribute [local go_sem ↓] Go.wp_at_zero Go.wp_at_succ

theorem impl_space {b : Nat} {g : Option Nat} {row : List UInt8} {len off : Nat} {lr : Int} (w : World) (h : Buf w b g row len off lr) :
    Calls Try.prog 58 #[.pointer (some ⟨b, 0, none⟩)] w fun e w' => ∃ m a c : Nat, e = .returned (.agg #[.int .i64 m, .int .i64 c, .int .i64 a, .int .i64 0, .int .i64 a]) ∧ Hid (m = len - off ∧ c = row.length ∧ a = row.length - len) ∧ Fr [] w w' := by
  go_enter Try.func58, Try.ntmps58
  go_wp2_with fail
  refine (Buffer_AvailableBuffer _ (h.alloc _)).mono ?_
  rintro e w1 ⟨A, c1, rfl, H1, k1, rfl⟩
  go_wp2_with fail
  refine (Buffer_Len _ ((h.alloc _).drewN _)).mono ?_
  rintro e w2 ⟨rfl, k2, rfl⟩
  go_wp2_with fail
  refine (Buffer_Cap _ ((h.alloc _).drewN _)).mono ?_
  rintro e w2 ⟨rfl, rfl⟩
  go_wp2_with fail
  refine (Buffer_Available _ ((h.alloc _).drewN _)).mono ?_
  rintro e w2 ⟨rfl, k3, rfl⟩
  go_wp2_with fail
  obtain rfl := H1.out.2
  refine bodyPost_ret (v := .agg #[.int .i64 ((len - off : Nat) : Int), .int .i64 (row.length : Int), .int .i64 ((row.length - len : Nat) : Int), .int .i64 0, .int .i64 ((row.length - len : Nat) : Int)]) (by simp [results, Try.results58, go_sem]) rfl ⟨_, _, _, rfl, ⟨rfl, rfl, rfl⟩, ?_⟩
  exact (((((((Fr.refl [] w).alloc _).drewN _).setCell (.inr (Nat.le_refl _)) _).setCell (.inr (Nat.le_refl _)) _).setCell (.inr (Nat.le_refl _)) _).setCell (.inr (Nat.le_refl _)) _).setCell (.inr (Nat.le_refl _)) _

/-- A struct of five ints in a block of its own, as the walk wants it. -/
theorem space_cells {w : World} {k : Nat} {t : TypeId} (h : Blk w k t #[.int .i64 0, .int .i64 0, .int .i64 0, .int .i64 0, .int .i64 0]) :
    (w.cell? ⟨k, 0, none⟩ = some (.int .i64 0) ∧ w.cell? ⟨k, 1, none⟩ = some (.int .i64 0) ∧ w.cell? ⟨k, 2, none⟩ = some (.int .i64 0) ∧ w.cell? ⟨k, 3, none⟩ = some (.int .i64 0) ∧ w.cell? ⟨k, 4, none⟩ = some (.int .i64 0)) ∧
    (w.frozen? ⟨k, 0, none⟩ = false ∧ w.frozen? ⟨k, 1, none⟩ = false ∧ w.frozen? ⟨k, 2, none⟩ = false ∧ w.frozen? ⟨k, 3, none⟩ = false ∧ w.frozen? ⟨k, 4, none⟩ = false) :=
  ⟨⟨h.cell 0, h.cell 1, h.cell 2, h.cell 3, h.cell 4⟩, h.frozen 0, h.frozen 1, h.frozen 2, h.frozen 3, h.frozen 4⟩

theorem impl_SpaceOf (l : List UInt8) (n : Nat) (w : World) (hl : l.length ≤ 9223372036854775807) (hn : n ≤ 65535) :
    Calls Try.prog 35 #[.string ⟨l.toArray⟩, .int .u16 (n : Int)] w fun e w' => ∃ m a c : Nat, e = .returned (.agg #[.int .i64 m, .int .i64 c, .int .i64 a, .int .i64 0, .int .i64 a]) ∧ Hid (m = l.length - n ∧ m + a ≤ c ∧ c ≤ 9223372036854775807) ∧ Fr [] w w' := by
  go_enter Try.func35, Try.ntmps35
  go_wp2_with fail
  refine (NewBufferString _ _ (by omega)).mono ?_
  rintro e w1 ⟨b, g, pad, rfl, hB, hf, hb, hg⟩
  go_wp2_with fail
  refine (Buffer_Next _ hB n).mono ?_
  rintro e w2 ⟨A2, m2, c2, off', lr', rfl, hS2, hB2, H2, hf2⟩
  go_wp2_with fail
  refine (impl_space _ hB2).mono ?_
  rintro e w3 ⟨m, a, c, rfl, H3, hf3⟩
  simp only [World.size_alloc] at hb hg
  have hk := (((Blk.new w 61 #[.int .i64 0, .int .i64 0, .int .i64 0, .int .i64 0, .int .i64 0]).fr hf (by simp)).fr hf2 (by simp; omega)).fr hf3 (by simp)
  obtain ⟨⟨c0, c1, c2, c3, c4⟩, f0, f1, f2, f3, f4⟩ := space_cells hk
  go_wp2_with fail
  refine bodyPost_ret (v := .agg #[.int .i64 m, .int .i64 c, .int .i64 a, .int .i64 0, .int .i64 a]) (by simp [results, Try.results35, go_sem, *]) rfl ⟨_, _, _, rfl, ?_, ?_⟩
  · obtain ⟨h1, h2, h3⟩ := H3.out
    have := H2.out.1
    have h4 := hB2.cap_le
    simp only [List.length_append] at *
    exact ⟨by omega, by omega, by omega⟩
  · exact ((((((((Fr.refl [] w).alloc _).trans hf).trans_of hf2 (by simp; omega)).trans hf3).setCell (.inr (Nat.le_refl _)) _).setCell (.inr (Nat.le_refl _)) _).setCell (.inr (Nat.le_refl _)) _).setCell (.inr (Nat.le_refl _)) _ |>.setCell (.inr (Nat.le_refl _)) _

theorem bytes_zero (n : Nat) : madeCells #[Value.int .u8 0] n = bvs (List.replicate n 0) := by
  apply Array.ext'
  rw [toList_madeCells_one]
  simp [bvs, bv]

end Go.Proofs.Ytoakicngghobcaa
