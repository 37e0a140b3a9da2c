/- A builder and an empty buffer hold the same. -/
import Derived.Test.YtgniidnbpkhmcaaDoorLawZB
import Derived.Test.YtgniidnbpkhmcaaDoorLawW
import Derived.Test.YtgniidnbpkhmcaaDoorDraw4
namespace Go.Proofs.YtgniidnbpkhmcaaDoor
open Go.RowKit
set_option linter.unusedVariables false
attribute [local go_sem ↓] Go.wp_at_zero Go.wp_at_succ

set_option maxHeartbeats 1600000 in
set_option maxRecDepth 100000 in
theorem FnBuilderRoads_walk (A : Option Addr) (n c : Nat) (l : List UInt8) (w : World) (hS : Sl w A n l) :
    Calls Tryd.prog 3 #[.slice A n c] w fun e w' => e = .returned (.bool true) ∧ Below w.heap.size w w' := by
  go_enter Tryd.func3, Tryd.ntmps3
  go_wp2_with fail
  by_cases hn : n ≤ 1048576
  · refine (large_no A n c w hn).mono ?_
    rintro e w1 ⟨rfl, rfl⟩
    go_wp2_with fail
    refine (DrawBuildStrings A n c l w hS hn).mono ?_
    rintro e w1 ⟨B, m, d, ls, rfl, hm, hB, hz, hf1⟩
    have hsum : (ls.map List.length).sum ≤ 20480 := by
      have h1 := sum_le ls hz
      have h2 : m = ls.length := by have := hB.1; simpa using this
      omega
    have hfl : ls.flatten.length ≤ 20480 := by rw [List.length_flatten]; exact hsum
    have h2 := Lib.hid (impl_BuildStrings B m d ls w1 hB (by omega))
    go_wp2_with fail
    refine h2.out.mono ?_
    rintro e w2 ⟨A2, c2, t2, rfl, hS2, H2, hf2⟩
    have hB2 := hB.fr_old hf2 (by simp)
    have h3 : Hid (Calls Tryd.prog 10 #[.string ⟨#[]⟩, .slice B m d] w2 _) := impl_WriteStrings [] B m d ls w2 hB2 (by simp; omega)
    go_wp2_with fail
    refine h3.out.mono ?_
    rintro e w3 ⟨A3, c3, t3, rfl, hS3, H3, hf3⟩
    obtain rfl : t2 = t3 := by rw [H2.out, H3.out]; rfl
    have hB3 := hB2.fr_old hf3 (by simp)
    have h4 := Lib.hid (laws_slices B m d ls w3 hB3 (by omega) (fun x hx => by have := hz x hx; omega))
    clear H3
    go_wp2_with fail
    refine h4.out.mono ?_
    rintro e w4 ⟨A4, c4, rfl, hS4, hf4⟩
    have h5 := Lib.hid (impl_BuildSlices A4 m c4 ls w4 hS4 (by omega))
    clear hS4
    go_wp2_with fail
    refine h5.out.mono ?_
    rintro e w5 ⟨A5, c5, t5, rfl, hS5, H5, hf5⟩
    obtain rfl : t2 = t5 := by rw [H2.out, H5.out]
    have hf35 := hf4.trans hf5
    have hB5 := hB3.fr_old hf35 (by simp)
    have h6 := Lib.hid (spec_Joined B m d ls w5 hB5 (by omega) (by omega))
    clear H5
    go_wp2_with fail
    refine h6.out.mono ?_
    rintro e w6 ⟨j, rfl, HJ, rfl⟩
    have hjl : j.length ≤ 20480 := by rw [HJ.out]; exact hfl
    obtain ⟨pad7, cx7, w7, hcv7, HCX7, hR7, hf7⟩ := run_bytes_row w5 j (by omega)
    have hS7 : Sl w7 (some ⟨w5.heap.size, 0, none⟩) j.length j := by
      have := hR7.rd 0 j.length
      exact ⟨rfl, by simpa using this⟩
    have h8 := Lib.hid (impl_BuildSingles (some ⟨w5.heap.size, 0, none⟩) j.length cx7 j w7 hS7 (by omega))
    clear hR7 hS7
    go_wp2_with fail
    refine h8.out.mono ?_
    rintro e w8 ⟨t8, rfl, H8, hf8⟩
    obtain rfl : t2 = t8 := by rw [H2.out, H8.out, HJ.out]
    have hf58 := hf7.trans hf8
    have hA2 := hS2.fr_old ((hf3.trans hf35).trans hf58) (by simp)
    have hA3 := hS3.fr_old (hf35.trans hf58) (by simp)
    have hA5 := hS5.fr_old hf58 (by simp)
    have h9 := Lib.hid (sameNumbers_true A2 A3 m c2 c3 _ w8 hA2 hA3 (by omega))
    clear H8 hS2 hS3 hS5
    go_wp2_with fail
    refine h9.out.mono ?_
    rintro e w9 ⟨rfl, hf9⟩
    have h10 := Lib.hid (sameNumbers_true A2 A5 m c2 c5 _ w9 (hA2.fr_old hf9 (by simp)) (hA5.fr_old hf9 (by simp)) (by omega))
    clear hA2 hA3 hA5
    go_wp2_with fail
    refine h10.out.mono ?_
    rintro e w10 ⟨rfl, hf10⟩
    go_wp2_with fail
    go_ret
    exact ⟨ret_true (by simp), ((((((hf1.trans hf2).trans hf3).trans hf35).trans hf58).trans hf9).trans hf10).below (Nat.le_refl _) (by simp)⟩
  · refine (large_yes A n c w (by omega)).mono ?_
    rintro e w1 ⟨rfl, rfl⟩
    go_wp2_with fail
    go_ret
    exact ⟨rfl, Below.refl _ _⟩

end Go.Proofs.YtgniidnbpkhmcaaDoor
