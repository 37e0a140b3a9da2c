/- The law on Len; draws. -/
import Derived.Test.YtoakicngghobcaaLawA
import Derived.Test.YtoakicngghobcaaLawB
import Derived.Test.YtoakicngghobcaaLawC
import Derived.Test.YtoakicngghobcaaDraw3
namespace Go.Proofs.Ytoakicngghobcaa
open Go.RowKit
set_option linter.unusedVariables false
attribute [local go_sem ↓] Go.wp_at_zero Go.wp_at_succ

theorem DrawReset (A : Option Addr) (n c : Nat) (l : List UInt8) (w : World) (hS : Sl w A n l) (hn : n ≤ 1048576) :
    Calls Try.prog 52 #[.slice A n c] w fun e w' => ∃ (s : List UInt8) (z : Nat) (t : List UInt8), e = .returned (.tuple #[.string ⟨s.toArray⟩, .int .u16 (z : Int), .string ⟨t.toArray⟩]) ∧ s.length ≤ 4096 ∧ z ≤ 4335 ∧ t.length ≤ 16 ∧ Fr [] w w' := by
  go_enter Try.func52, Try.ntmps52
  go_wp2_with fail
  refine (rd_long _ w.heap.size A n c l 0 (Dr.made hS hn) (by omega)).mono ?_
  rintro e w1 ⟨s, rfl, hs, hD1, hf1⟩
  go_wp2_with fail
  refine (rd_size w1 w.heap.size A n c l _ hD1 (by omega)).mono ?_
  rintro e w2 ⟨z, rfl, hz, hD2, hf2⟩
  go_wp2_with fail
  refine (rd_text w2 w.heap.size A n c l _ 4 hD2 (by omega) (by omega)).mono ?_
  rintro e w3 ⟨t, rfl, ht, hD3, hf3⟩
  go_wp2_with fail
  go_ret3
  exact ⟨s, z, t, rfl, hs, hz, by omega, ((((Fr.refl [] w).alloc _).trans_of hf1 (by simp)).trans_of hf2 (by simp)).trans_of hf3 (by simp)⟩

theorem DrawLenAfter (A : Option Addr) (n c : Nat) (l : List UInt8) (w : World) (hS : Sl w A n l) (hn : n ≤ 1048576) :
    Calls Try.prog 31 #[.slice A n c] w fun e w' => ∃ (s : List UInt8) (z : Nat), e = .returned (.tuple #[.string ⟨s.toArray⟩, .int .u16 (z : Int)]) ∧ s.length ≤ 4096 ∧ z ≤ 4335 ∧ Fr [] w w' := by
  go_enter Try.func31, Try.ntmps31
  go_wp2_with fail
  refine (DrawReset A n c l w hS hn).mono ?_
  rintro e w1 ⟨s, z, t, rfl, hs, hz, ht, hf⟩
  go_wp2_with fail
  go_ret2
  exact ⟨s, z, rfl, hs, hz, hf⟩

theorem slv_one' (w : World) (u : Value) (e : TypeId) : Slv (w.alloc (.cells #[u] e)) (some ⟨w.heap.size, 0, none⟩) 1 [u] := slv_new w #[u] e

set_option maxHeartbeats 1600000 in
set_option maxRecDepth 100000 in
theorem FnLen_walk (A : Option Addr) (n c : Nat) (l : List UInt8) (w : World) (hS : Sl w A n l) :
    Calls Try.prog 11 #[.slice A n c] w fun e w' => e = .returned (.bool true) ∧ Below w.heap.size w w' := by
  go_enter Try.func11, Try.ntmps11
  go_wp2_with fail
  by_cases hn : n ≤ 1048576
  · refine (large_no A n c w hn).mono ?_
    rintro e w1 ⟨rfl, rfl⟩
    go_wp2_with fail
    refine (DrawLenAfter A n c l w hS hn).mono ?_
    rintro e w1 ⟨s, z, rfl, hs, hz, hf1⟩
    go_wp2_with fail
    refine (impl_LenAfter s z w1 (by omega) (by omega)).mono ?_
    rintro e w2 ⟨rfl, hf2⟩
    have HSV := Lib.hid (slv_one' w2 (.int .u16 (z : Int)) 42)
    go_wp2_with fail
    refine (impl_NextChunks s _ 1 1 [z] _ HSV.out (by simp; omega) (by omega)).mono ?_
    rintro e w3 ⟨D, d3, s3, rfl, hD, H3, hf3⟩
    have hf23 := ((Fr.refl [] w2).alloc (.cells #[.int .u16 (z : Int)] 42)).trans hf3
    have hs3 : s3 = s.drop z := by rw [H3.out]; simp [tot]
    obtain ⟨bd, u, rfl, hu, hcd⟩ := hD.at_ (k := 0) (by omega)
    have hu' : ((chunks s [z] 1).map sv)[0]? = some (.string ⟨(s.take z).toArray⟩) := by simp [chunks, chunk, sv, tot]
    rw [hu'] at hu
    simp only [Option.some.injEq] at hu
    subst hu
    have hcd' : w3.cell? bd = some (.string ⟨(s.take z).toArray⟩) := by simpa [Addr.add] using hcd
    have hlx : (s.take z).length + (s.length - z) = s.length := by simp; omega
    have hl3 : s3.length = s.length - z := by rw [hs3]; simp
    have HS3 := Lib.hid hs3
    have e1 : (((s.length - z : Nat) : Int) == (s3.length : Int)) = true := by rw [hl3]; simp
    generalize s.take z = x at *
    have HL3 := Lib.hid hl3
    clear hu' H3 hs3 hcd hl3
    have e2 : (((x.length : Int) + ((s.length - z : Nat) : Int)) == (s.length : Int)) = true := by simp; omega
    go_wp2_with fail
    refine (impl_BytesAfter s z _ (by omega) (by omega)).mono ?_
    rintro e w4 ⟨C, m4, c4, rfl, hS4, hf4⟩
    rw [← HS3.out] at hS4
    have hst := run_string_sl (P := Try.prog) hS4 22 9 5 c4 Try.underlying22 Try.underlying5 Try.underlying9
    go_wp2_with fail
    refine (impl_SpaceOf s z _ (by omega) (by omega)).mono ?_
    rintro e w5 ⟨m, a5, c5, rfl, H5, hf5⟩
    have hm5 : m = s.length - z := H5.out.1
    have e5 : ((m : Int) == ((s.length - z : Nat) : Int)) = true := by rw [hm5]; simp
    clear H5 hm5
    have hfd : ∀ W : World, (Instr.field 61 (.agg #[.int .i64 (m : Int), .int .i64 (c5 : Int), .int .i64 (a5 : Int), .int .i64 0, .int .i64 (a5 : Int)]) 0).run Try.prog W = .ok (.int .i64 (m : Int)) W := fun _ => by kernel_rfl
    go_wp2_with fail
    go_ret
    exact ⟨ret_true (by simp), ((((hf1.trans hf2).trans hf23).trans hf4).trans hf5).below (Nat.le_refl _) (by simp)⟩
  · refine (large_yes A n c w (by omega)).mono ?_
    rintro e w1 ⟨rfl, rfl⟩
    go_wp2_with fail
    go_ret
    exact ⟨rfl, Below.refl _ _⟩

end Go.Proofs.Ytoakicngghobcaa
