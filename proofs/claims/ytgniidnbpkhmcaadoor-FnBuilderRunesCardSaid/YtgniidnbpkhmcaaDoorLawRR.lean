/- A builder and an empty buffer hold the same of code points. -/
import Derived.Test.YtgniidnbpkhmcaaDoorLawMM
import Derived.Test.YtgniidnbpkhmcaaDoorLawNN
import Derived.Test.YtgniidnbpkhmcaaDoorDrawR
namespace Go.Proofs.YtgniidnbpkhmcaaDoor
open Go.RowKit
set_option linter.unusedVariables false
attribute [local go_sem ↓] Go.wp_at_zero Go.wp_at_succ

set_option maxHeartbeats 1600000 in
set_option maxRecDepth 100000 in
theorem FnBuilderRunes_walk (A : Option Addr) (n c : Nat) (l : List UInt8) (w : World) (hS : Sl w A n l) :
    Calls Tryd.prog 5 #[.slice A n c] w fun e w' => e = .returned (.bool true) ∧ Below w.heap.size w w' := by
  go_enter Tryd.func5, Tryd.ntmps5
  go_wp2_with fail
  by_cases hn : n ≤ 1048576
  · refine (large_no A n c w hn).mono ?_
    rintro e w1 ⟨rfl, rfl⟩
    go_wp2_with fail
    refine (DrawBuildRunes A n c l w hS hn).mono ?_
    rintro e w1 ⟨B, m, d, zs, rfl, hm, hB, hz, hmd, hf1⟩
    have h2 := Lib.hid (impl_BuildRunes B m d zs w1 hB hz (by omega))
    have h3 := Lib.hid fun W hW => impl_WriteRunes B m d zs W hW hz (by omega)
    go_wp2_with fail
    refine h2.out.mono ?_
    rintro e w2 ⟨A2, c2, t2, rfl, hS2, H2, hf2⟩
    have hB2 := hB.fr_old hf2 (by simp)
    go_wp2_with fail
    refine (h3.out _ hB2).mono ?_
    rintro e w3 ⟨A3, c3, t3, rfl, hS3, H3, hf3⟩
    obtain rfl : t2 = t3 := by rw [H2.out, H3.out]
    have h9 := Lib.hid (sameNumbers_true A2 A3 m c2 c3 _ w3 (hS2.fr_old hf3 (by simp)) hS3 (by omega))
    clear hS2 hS3 H2 H3
    go_wp2_with fail
    refine h9.out.mono ?_
    rintro e w4 ⟨rfl, hf4⟩
    go_wp2_with fail
    go_ret
    exact ⟨ret_true (by simp), (((hf1.trans hf2).trans hf3).trans hf4).below (Nat.le_refl _) (by simp)⟩
  · refine (large_yes A n c w (by omega)).mono ?_
    rintro e w1 ⟨rfl, rfl⟩
    go_wp2_with fail
    go_ret
    exact ⟨rfl, Below.refl _ _⟩

end Go.Proofs.YtgniidnbpkhmcaaDoor
