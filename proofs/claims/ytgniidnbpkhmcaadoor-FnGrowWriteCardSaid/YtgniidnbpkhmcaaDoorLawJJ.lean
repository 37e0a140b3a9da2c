/- What is written after growing is written as without it. -/
import Derived.Test.YtgniidnbpkhmcaaDoorBufGrow
import Derived.Test.YtgniidnbpkhmcaaDoorLawS
import Derived.Test.YtgniidnbpkhmcaaDoorDraw4
namespace Go.Proofs.YtgniidnbpkhmcaaDoor
open Go.RowKit
set_option linter.unusedVariables false
attribute [local go_sem ↓] Go.wp_at_zero Go.wp_at_succ

set_option maxHeartbeats 1600000 in
set_option maxRecDepth 100000 in
theorem FnGrowWrite_walk (A : Option Addr) (n c : Nat) (l : List UInt8) (w : World) (hS : Sl w A n l) :
    Calls Tryd.prog 6 #[.slice A n c] w fun e w' => e = .returned (.bool true) ∧ Below w.heap.size w w' := by
  go_enter Tryd.func6, Tryd.ntmps6
  go_wp2_with fail
  by_cases hn : n ≤ 1048576
  · refine (large_no A n c w hn).mono ?_
    rintro e w1 ⟨rfl, rfl⟩
    go_wp2_with fail
    refine (DrawGrowAndWrite A n c l w hS hn).mono ?_
    rintro e w1 ⟨s, z, x, rfl, hs, hz, hf1⟩
    have h2 := Lib.hid fun W => impl_GrowAndWrite s z x W (by omega) (by omega)
    have h3 := Lib.hid fun W => impl_GrowAndBuild s z x W (by omega) (by omega)
    have h4 := Lib.hid fun W => laws_repeated x z W (by omega)
    go_wp2_with fail
    refine (h2.out _).mono ?_
    rintro e w2 ⟨c2, t2, rfl, hc2, H2, hf2⟩
    go_wp2_with fail
    refine (h3.out _).mono ?_
    rintro e w3 ⟨c3, t3, rfl, hc3, H3, hf3⟩
    obtain rfl : t2 = t3 := by rw [H2.out, H3.out]
    clear H3
    go_wp2_with fail
    refine (h4.out _).mono ?_
    rintro e w4 ⟨t4, rfl, H4, hf4⟩
    have hl4 : t4.length ≤ 65535 := by rw [H4.out]; simp; omega
    have h5 := Lib.hid fun hW => impl_WriteStrings s (some ⟨w4.heap.size, 0, none⟩) 1 1 [t4] (w4.alloc (.cells #[.string ⟨t4.toArray⟩] 9)) hW (by simp; omega)
    go_wp2_with fail
    refine (h5.out (slv_fresh w4 #[.string ⟨t4.toArray⟩] 9)).mono ?_
    rintro e w5 ⟨A5, c5, t5, rfl, hS5, H5, hf5⟩
    obtain rfl : t2 = t5 := by rw [H2.out, H5.out, H4.out]; simp
    clear H5 hS5
    go_wp2_with fail
    refine (h4.out _).mono ?_
    rintro e w6 ⟨t6, rfl, H6, hf6⟩
    have hl6 : t6.length ≤ 65535 := by rw [H6.out]; simp; omega
    go_wp2_with fail
    go_ret
    exact ⟨ret_true (by rw [H2.out, H6.out]; simp), (((((hf1.trans hf2).trans hf3).trans hf4).trans (((Fr.refl [] w4).alloc _).trans hf5)).trans hf6).below (Nat.le_refl _) (by simp)⟩
  · refine (large_yes A n c w (by omega)).mono ?_
    rintro e w1 ⟨rfl, rfl⟩
    go_wp2_with fail
    go_ret
    exact ⟨rfl, Below.refl _ _⟩

end Go.Proofs.YtgniidnbpkhmcaaDoor
