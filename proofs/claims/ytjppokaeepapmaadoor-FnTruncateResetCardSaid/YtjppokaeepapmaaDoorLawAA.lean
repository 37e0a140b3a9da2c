/- Truncating to nothing is resetting. -/
import Derived.Test.YtjppokaeepapmaaDoorTrunc
import Derived.Test.YtjppokaeepapmaaDoorLawW
import Derived.Test.YtjppokaeepapmaaDoorLawA
import Derived.Test.YtjppokaeepapmaaDoorLawQ
namespace Go.Proofs.YtjppokaeepapmaaDoor
open Go.RowKit
set_option linter.unusedVariables false
attribute [local go_sem ↓] Go.wp_at_zero Go.wp_at_succ

set_option maxHeartbeats 1600000 in
set_option maxRecDepth 100000 in
theorem FnTruncateReset_walk (A : Option Addr) (n c : Nat) (l : List UInt8) (w : World) (hS : Sl w A n l) :
    Calls Tryd.prog 11 #[.slice A n c] w fun e w' => e = .returned (.bool true) ∧ Below w.heap.size w w' := by
  go_enter Tryd.func11, Tryd.ntmps11
  go_wp2_with fail
  by_cases hn : n ≤ 1048576
  · refine (large_no A n c w hn).mono ?_
    rintro e w1 ⟨rfl, rfl⟩
    go_wp2_with fail
    refine (DrawReset A n c l w hS hn).mono ?_
    rintro e w1 ⟨s, z, t, rfl, hs, hz, ht, hf1⟩
    have h2 := Lib.hid fun W => impl_Reset s z t W (by omega) (by omega) (by omega)
    have h3 : Hid (∀ W, Calls Tryd.prog 35 #[.string ⟨s.toArray⟩, .int .u16 (z : Int), .int .i64 0] W _) := fun W => impl_Truncate_ok s z 0 W (by omega) (by omega) (Nat.zero_le _)
    have h4 := Lib.hid fun W => impl_LenAfter s z W (by omega) (by omega)
    have h5 := Lib.hid fun W => impl_Truncate_ok s z (s.length - z) W (by omega) (by omega) (Nat.le_refl _)
    have h6 := Lib.hid fun W => impl_Truncate_bad s z (((s.length - z : Nat) : Int) + 1) W (by omega) (by omega) (.inr (by omega))
    have h7 := Lib.hid fun W => impl_Truncate_bad s z (-1) W (by omega) (by omega) (.inl (by omega))
    have h8 := Lib.hid fun W => impl_BytesAfter s z W (by omega) (by omega)
    go_wp2_with fail
    refine (h2.out _).mono ?_
    rintro e w2 ⟨t2, rfl, H2, hf2⟩
    obtain rfl := H2.out
    clear H2
    go_wp2_with fail
    refine (h3.out _).mono ?_
    rintro e w3 ⟨t3, rfl, H3, hf3⟩
    obtain rfl : t3 = [] := by rw [H3.out]; simp
    clear H3
    go_wp2_with fail
    refine (h4.out _).mono ?_
    rintro e w4 ⟨rfl, hf4⟩
    generalize hN : s.length - z = N at *
    have HN := Lib.hid hN
    clear hN
    have hNle : N ≤ 4096 := by have := HN.out; omega
    go_wp2_with fail
    refine (h5.out _).mono ?_
    rintro e w5 ⟨t5, rfl, H5, hf5⟩
    have hl5 : t5.length = N := by rw [H5.out]; simp; have := HN.out; omega
    have hd5 : t5 = s.drop z := by rw [H5.out, List.take_of_length_le (by simp; have := HN.out; omega)]
    have HL5 := Lib.hid hl5
    have HD5 := Lib.hid hd5
    clear hl5 hd5 H5
    go_wp2_with fail
    refine (h6.out _).mono ?_
    rintro e w6 ⟨rfl, hf6⟩
    go_wp2_with fail
    refine (h7.out _).mono ?_
    rintro e w7 ⟨rfl, hf7⟩
    go_wp2_with fail
    refine (h8.out _).mono ?_
    rintro e w8 ⟨C, m8, c8, rfl, hS8, hf8⟩
    rw [← HD5.out] at hS8
    have hst := run_string_sl (P := Tryd.prog) hS8 27 9 5 c8 Tryd.underlying27 Tryd.underlying5 Tryd.underlying9
    have e5 : ((t5.length : Int) == (N : Int)) = true := by simp [HL5.out]
    clear hS8
    go_wp2_with fail
    go_ret
    exact ⟨ret_true (by simp), (((((((hf1.trans hf2).trans hf3).trans hf4).trans hf5).trans hf6).trans hf7).trans hf8).below (Nat.le_refl _) (by simp)⟩
  · refine (large_yes A n c w (by omega)).mono ?_
    rintro e w1 ⟨rfl, rfl⟩
    go_wp2_with fail
    go_ret
    exact ⟨rfl, Below.refl _ _⟩

end Go.Proofs.YtjppokaeepapmaaDoor
