/- Laws on the space of a buffer. -/
import Derived.Test.YtpfhpoggollblaaSpec
import Derived.Deep.RegionWith
import Derived.Deep.DrawnRows
namespace Go.Proofs.Ytpfhpoggollblaa
open Go.RowKit
set_option linter.unusedVariables false
attribute [local go_sem ↓] Go.wp_at_zero Go.wp_at_succ

theorem impl_space {b : Nat} {g : Option Nat} {row : List UInt8} {len off : Nat} {lr : Int} (w : World) (h : Buf w b g row len off lr) :
    Calls Try.prog 22 #[.pointer (some ⟨b, 0, none⟩)] w fun e w' => ∃ m a c : Nat, e = .returned (.agg #[.int .i64 m, .int .i64 c, .int .i64 a, .int .i64 0, .int .i64 a]) ∧ Hid (m = len - off ∧ c = row.length ∧ a = row.length - len) ∧ Fr [] w w' := by
  go_enter Try.func22, Try.ntmps22
  go_wp2_with fail
  refine (Buffer_AvailableBuffer _ (h.alloc _)).mono ?_
  rintro e w1 ⟨A, c1, rfl, H1, k1, rfl⟩
  go_wp2_with fail
  refine (Buffer_Len _ ((h.alloc _).drewN _)).mono ?_
  rintro e w2 ⟨rfl, k2, rfl⟩
  go_wp2_with fail
  refine (Buffer_Cap _ ((h.alloc _).drewN _)).mono ?_
  rintro e w2 ⟨rfl, rfl⟩
  go_wp2_with fail
  refine (Buffer_Available _ ((h.alloc _).drewN _)).mono ?_
  rintro e w2 ⟨rfl, k3, rfl⟩
  go_wp2_with fail
  obtain rfl := H1.out.2
  refine bodyPost_ret (v := .agg #[.int .i64 ((len - off : Nat) : Int), .int .i64 (row.length : Int), .int .i64 ((row.length - len : Nat) : Int), .int .i64 0, .int .i64 ((row.length - len : Nat) : Int)]) (by simp [results, Try.results22, go_sem]) rfl ⟨_, _, _, rfl, ⟨rfl, rfl, rfl⟩, ?_⟩
  exact (((((((Fr.refl [] w).alloc _).drewN _).setCell (.inr (Nat.le_refl _)) _).setCell (.inr (Nat.le_refl _)) _).setCell (.inr (Nat.le_refl _)) _).setCell (.inr (Nat.le_refl _)) _).setCell (.inr (Nat.le_refl _)) _

/-- A struct of five ints in a block of its own, as the walk wants it. -/
theorem space_cells {w : World} {k : Nat} {t : TypeId} (h : Blk w k t #[.int .i64 0, .int .i64 0, .int .i64 0, .int .i64 0, .int .i64 0]) :
    (w.cell? ⟨k, 0, none⟩ = some (.int .i64 0) ∧ w.cell? ⟨k, 1, none⟩ = some (.int .i64 0) ∧ w.cell? ⟨k, 2, none⟩ = some (.int .i64 0) ∧ w.cell? ⟨k, 3, none⟩ = some (.int .i64 0) ∧ w.cell? ⟨k, 4, none⟩ = some (.int .i64 0)) ∧
    (w.frozen? ⟨k, 0, none⟩ = false ∧ w.frozen? ⟨k, 1, none⟩ = false ∧ w.frozen? ⟨k, 2, none⟩ = false ∧ w.frozen? ⟨k, 3, none⟩ = false ∧ w.frozen? ⟨k, 4, none⟩ = false) :=
  ⟨⟨h.cell 0, h.cell 1, h.cell 2, h.cell 3, h.cell 4⟩, h.frozen 0, h.frozen 1, h.frozen 2, h.frozen 3, h.frozen 4⟩

theorem impl_SpaceOf (l : List UInt8) (n : Nat) (w : World) (hl : l.length ≤ 9223372036854775807) (hn : n ≤ 65535) :
    Calls Try.prog 17 #[.string ⟨l.toArray⟩, .int .u16 (n : Int)] w fun e w' => ∃ m a c : Nat, e = .returned (.agg #[.int .i64 m, .int .i64 c, .int .i64 a, .int .i64 0, .int .i64 a]) ∧ Hid (m = l.length - n ∧ m + a ≤ c ∧ c ≤ 9223372036854775807) ∧ Fr [] w w' := by
  go_enter Try.func17, Try.ntmps17
  go_wp2_with fail
  refine (NewBufferString _ _ (by omega)).mono ?_
  rintro e w1 ⟨b, g, pad, rfl, hB, hf, hb, hg⟩
  go_wp2_with fail
  refine (Buffer_Next _ hB n).mono ?_
  rintro e w2 ⟨A2, m2, c2, off', lr', rfl, hS2, hB2, H2, hf2⟩
  go_wp2_with fail
  refine (impl_space _ hB2).mono ?_
  rintro e w3 ⟨m, a, c, rfl, H3, hf3⟩
  simp only [World.size_alloc] at hb hg
  have hk := (((Blk.new w 27 #[.int .i64 0, .int .i64 0, .int .i64 0, .int .i64 0, .int .i64 0]).fr hf (by simp)).fr hf2 (by simp; omega)).fr hf3 (by simp)
  obtain ⟨⟨c0, c1, c2, c3, c4⟩, f0, f1, f2, f3, f4⟩ := space_cells hk
  go_wp2_with fail
  refine bodyPost_ret (v := .agg #[.int .i64 m, .int .i64 c, .int .i64 a, .int .i64 0, .int .i64 a]) (by simp [results, Try.results17, go_sem, *]) rfl ⟨_, _, _, rfl, ?_, ?_⟩
  · obtain ⟨h1, h2, h3⟩ := H3.out
    have := H2.out.1
    have h4 := hB2.cap_le
    simp only [List.length_append] at *
    exact ⟨by omega, by omega, by omega⟩
  · exact ((((((((Fr.refl [] w).alloc _).trans hf).trans_of hf2 (by simp; omega)).trans hf3).setCell (.inr (Nat.le_refl _)) _).setCell (.inr (Nat.le_refl _)) _).setCell (.inr (Nat.le_refl _)) _).setCell (.inr (Nat.le_refl _)) _ |>.setCell (.inr (Nat.le_refl _)) _

theorem FnExactSpaceOf_walk (l : List UInt8) (n : Nat) (w : World) (hl : l.length ≤ 9223372036854775807) (hn : n ≤ 65535) :
    Calls Try.prog 8 #[.string ⟨l.toArray⟩, .int .u16 (n : Int)] w fun e w' => e = .returned (.bool true) ∧ Below w.heap.size w w' := by
  have h1 := Lib.hid fun W => spec_From l n W (by omega)
  have hwr : IntKind.i64.wrap (n : Int) = n := IntWalk.i64_in _ (by omega)
  go_enter Try.func8, Try.ntmps8
  go_wp2_with fail
  refine (impl_SpaceOf l n w hl hn).mono ?_
  rintro e w1 ⟨m, a, c, rfl, H1, hf1⟩
  obtain ⟨hm, hc, hc'⟩ := H1.out
  have hd : ((m : Int) == ((l.length - n : Nat) : Int)) = true := by simp [hm]
  have hM := Lib.hid hm
  clear hm H1
  have hwa : IntKind.i64.wrap ((m : Int) + (a : Int)) = m + a := IntWalk.i64_in _ (by omega)
  have hd2 : decide ((m : Int) + (a : Int) ≤ (c : Int)) = true := by simp; omega
  have hd3 : decide ((0 : Int) ≤ (a : Int)) = true := by simp
  go_wp2_with fail
  go_quiet ((go_at_call 15; exact Calls.quiet_of_same (by exact (h1.out _).mono fun e w' ⟨h1, h2⟩ => ⟨h1, h2.symm⟩)))
  go_wp2
  go_ret
  exact ⟨rfl, ((hf1.alloc _).drewN _).below (Nat.le_refl _) (by simp)⟩

theorem bytes_zero (n : Nat) : madeCells #[Value.int .u8 0] n = bvs (List.replicate n 0) := by
  apply Array.ext'
  rw [toList_madeCells_one]
  simp [bvs, bv]

theorem NewBuffer_row (w : World) (g : Nat) (row : List UInt8) (n : Nat) (hR : Row w g row) (hn : n ≤ row.length) (hc : row.length ≤ 9223372036854775807) :
    Calls Try.prog 23 #[.slice (some ⟨g, 0, none⟩) n row.length] w fun e w' => ∃ b, e = .returned (.pointer (some ⟨b, 0, none⟩)) ∧ Buf w' b (some g) row n 0 0 ∧ Fr [] w w' ∧ w.heap.size ≤ b := by
  have HR := Lib.hid hR
  clear hR
  go_enter Try.func23, Try.ntmps23
  go_wp2
  go_ret
  refine ⟨_, rfl, ⟨Blk.new w 54 _, Nat.zero_le _, hn, hc, by simp, ?_⟩, (Fr.refl [] w).alloc _, by omega⟩
  rintro x ⟨⟩
  have := HR.out.lt
  exact ⟨by omega, HR.out.alloc _⟩

theorem impl_SpaceOfSlice (n : Nat) (w : World) (hn : n ≤ 65535) :
    Calls Try.prog 11 #[.int .u16 (n : Int)] w fun e w' => e = .returned (.agg #[.int .i64 0, .int .i64 n, .int .i64 n, .int .i64 0, .int .i64 n]) ∧ Fr [] w w' := by
  obtain ⟨i, hi, hz0, hz1, hz2⟩ := info_parts (P := Try.prog) (e := 5) (z := .int .u8 0) (size := 1) (bytes := 1) (by kernel_rfl)
  have hmk := fun W => run_make (P := Try.prog) W 22 5 i (.int .u8 0) Try.underlying22 hi hz0 .i64 .u16 0 n (by omega) (by omega) (by rw [hz2]; omega) (by omega)
  rw [hz1] at hmk
  simp only [Int.toNat_natCast, Int.toNat_zero, Nat.mul_one] at hmk
  go_enter Try.func11, Try.ntmps11
  go_wp2_with fail
  have hnb := NewBuffer_row ((w.alloc (.cells #[.int .i64 0, .int .i64 0, .int .i64 0, .int .i64 0, .int .i64 0] 27)).alloc (.cells (madeCells #[Value.int .u8 0] n) 5)) (w.heap.size + 1) (List.replicate n 0) 0
    ⟨0, 0, by rw [bytes_zero]; simpa using heap_alloc_new (w.alloc (.cells #[.int .i64 0, .int .i64 0, .int .i64 0, .int .i64 0, .int .i64 0] 27)) _, .inl (Nat.le_refl _)⟩ (Nat.zero_le _) (by simp; omega)
  rw [List.length_replicate] at hnb
  refine hnb.mono ?_
  rintro e w1 ⟨b, rfl, hB, hf, hb⟩
  clear hnb
  go_wp2_with fail
  refine (impl_space _ hB).mono ?_
  rintro e w2 ⟨m, a, c, rfl, H2, hf2⟩
  have hk := (((Blk.new w 27 #[.int .i64 0, .int .i64 0, .int .i64 0, .int .i64 0, .int .i64 0]).alloc (.cells (madeCells #[Value.int .u8 0] n) 5)).fr hf (by simp)).fr hf2 (by simp)
  obtain ⟨⟨c0, c1, c2, c3, c4⟩, f0, f1, f2, f3, f4⟩ := space_cells hk
  obtain ⟨rfl, rfl, rfl⟩ : m = 0 ∧ c = n ∧ a = n := by
    have := H2.out
    simpa using this
  clear H2
  go_wp2_with fail
  refine bodyPost_ret (v := .agg #[.int .i64 0, .int .i64 a, .int .i64 a, .int .i64 0, .int .i64 a]) (by simp [results, Try.results11, go_sem, *]) rfl ⟨rfl, ?_⟩
  exact (((((((((Fr.refl [] w).alloc _).alloc _).trans hf).trans hf2).setCell (.inr (Nat.le_refl _)) _).setCell (.inr (Nat.le_refl _)) _).setCell (.inr (Nat.le_refl _)) _).setCell (.inr (Nat.le_refl _)) _).setCell (.inr (Nat.le_refl _)) _

theorem FnExactSpaceOfSlice_walk (n : Nat) (w : World) (hn : n ≤ 65535) :
    Calls Try.prog 4 #[.int .u16 (n : Int)] w fun e w' => e = .returned (.bool true) ∧ Below w.heap.size w w' := by
  go_enter Try.func4, Try.ntmps4
  go_wp2_with fail
  refine (impl_SpaceOfSlice n w hn).mono ?_
  rintro e w1 ⟨rfl, hf1⟩
  go_wp2_with fail
  go_ret
  exact ⟨rfl, (hf1.alloc _).below (Nat.le_refl _) (by simp)⟩
end Go.Proofs.Ytpfhpoggollblaa
