/- Truncating twice. -/
import Derived.Test.YtoakicngghobcaaTrunc
import Derived.Test.YtoakicngghobcaaDraw4
import Derived.Test.YtoakicngghobcaaLawA
namespace Go.Proofs.Ytoakicngghobcaa
open Go.RowKit
set_option linter.unusedVariables false
attribute [local go_sem ↓] Go.wp_at_zero Go.wp_at_succ

set_option maxHeartbeats 1600000 in
set_option maxRecDepth 100000 in
theorem FnTruncateTwice_walk (A : Option Addr) (n c : Nat) (l : List UInt8) (w : World) (hS : Sl w A n l) :
    Calls Try.prog 13 #[.slice A n c] w fun e w' => e = .returned (.bool true) ∧ Below w.heap.size w w' := by
  go_enter Try.func13, Try.ntmps13
  go_wp2_with fail
  by_cases hn : n ≤ 1048576
  · refine (large_no A n c w hn).mono ?_
    rintro e w1 ⟨rfl, rfl⟩
    go_wp2_with fail
    refine (DrawTruncate A n c l w hS hn).mono ?_
    rintro e w1 ⟨s, z, a, rfl, hs, hz, ha, hf1⟩
    by_cases hb : a < 0 ∨ ((s.length - z : Nat) : Int) < a
    · have HB := Lib.hid hb
      by_cases h0 : a < 0
      · clear hb
        go_wp2_with fail
        refine (impl_Truncate_bad s z a w1 (by omega) (by omega) HB.out).mono ?_
        rintro e w2 ⟨rfl, hf2⟩
        go_wp2_with fail
        go_ret
        exact ⟨rfl, (hf1.trans hf2).below (Nat.le_refl _) (by simp)⟩
      · have h1 : ((s.length - z : Nat) : Int) < a := by omega
        clear hb
        go_wp2_with fail
        refine (impl_Truncate_bad s z a w1 (by omega) (by omega) HB.out).mono ?_
        rintro e w2 ⟨rfl, hf2⟩
        go_wp2_with fail
        refine (impl_LenAfter s z w2 (by omega) (by omega)).mono ?_
        rintro e w3 ⟨rfl, hf3⟩
        have hd : decide (((s.length - z : Nat) : Int) < a) = true := by simp; omega
        go_wp2_with fail
        go_ret
        exact ⟨ret_true (by simp), ((hf1.trans hf2).trans hf3).below (Nat.le_refl _) (by simp)⟩
    · obtain ⟨m, rfl⟩ := Int.eq_ofNat_of_zero_le (show 0 ≤ a by omega)
      have hm : m ≤ s.length - z := by omega
      clear hb ha
      go_wp2_with fail
      refine (impl_Truncate_ok s z m w1 (by omega) (by omega) hm).mono ?_
      rintro e w2 ⟨t, rfl, H2, hf2⟩
      have hf12 := hf1.trans hf2
      have htl : t.length = m := by rw [H2.out]; simp; omega
      have HT := Lib.hid htl
      clear htl
      go_wp2_with fail
      go_loopw [8] (fun i wr => ∃ k, k ≤ 8 ∧ k ≤ m + 1 ∧ i = .int .i64 (k : Int) ∧ Fr [] w wr) (fun i _ => 8 - (intOf i).toNat)
      case atStart => exact ⟨0, by omega, by omega, rfl, hf12⟩
      case round =>
        obtain ⟨k, hk, hk2, rfl, hf⟩ := hrel
        by_cases hkm : k ≤ m
        · by_cases hk8 : k < 8
          · have ht1 := Lib.hid fun W => impl_Truncate_ok t 0 k W (by have := HT.out; omega) (by omega) (by have := HT.out; omega)
            have ht2 := Lib.hid fun W => impl_Truncate_ok s z k W (by omega) (by omega) (by omega)
            go_wp2_with fail
            refine (ht1.out _).mono ?_
            rintro e w3 ⟨t3, rfl, H3, hf3⟩
            go_wp2_with fail
            refine (ht2.out _).mono ?_
            rintro e w4 ⟨t4, rfl, H4, hf4⟩
            obtain rfl : t3 = t4 := by rw [H3.out, H4.out, H2.out, List.drop_zero, List.take_take, show min k m = k by omega]
            clear H3 H4
            go_wp2_with fail
            go_roundw
            case rel => exact ⟨k + 1, by omega, by omega, by go_num, (hf.trans hf3).trans hf4⟩
            case measure => simp [intOf]; omega
          · have hd8 : decide ((k : Int) < 8) = false := by simp; omega
            go_wp2_with fail
            go_ret
            exact ⟨ret_true (by simp [HT.out]), hf.below (Nat.le_refl _) (by simp)⟩
        · have hdm : decide ((k : Int) ≤ (m : Int)) = false := by simp; omega
          go_wp2_with fail
          go_ret
          exact ⟨ret_true (by simp [HT.out]), hf.below (Nat.le_refl _) (by simp)⟩
  · refine (large_yes A n c w (by omega)).mono ?_
    rintro e w1 ⟨rfl, rfl⟩
    go_wp2_with fail
    go_ret
    exact ⟨rfl, Below.refl _ _⟩

end Go.Proofs.Ytoakicngghobcaa
