/- Growing changes nothing that is read. -/
import Derived.Test.YtgniidnbpkhmcaaDoorLawGG
import Derived.Test.YtgniidnbpkhmcaaDoorLawT
namespace Go.Proofs.YtgniidnbpkhmcaaDoor
open Go.RowKit
set_option linter.unusedVariables false
attribute [local go_sem ↓] Go.wp_at_zero Go.wp_at_succ

set_option maxRecDepth 100000 in
set_option maxHeartbeats 1600000 in
theorem FnGrowKeeps_walk (A : Option Addr) (n c : Nat) (l : List UInt8) (w : World) (hS : Sl w A n l) :
    Calls Tryd.prog 4 #[.slice A n c] w fun e w' => e = .returned (.bool true) ∧ Below w.heap.size w w' := by
  go_enter Tryd.func4, Tryd.ntmps4
  go_wp2_with fail
  by_cases hn : n ≤ 1048576
  · refine (large_no A n c w hn).mono ?_
    rintro e w1 ⟨rfl, rfl⟩
    go_wp2_with fail
    refine (DrawGrow A n c l w hS hn).mono ?_
    rintro e w1 ⟨t, a, rfl, ht, ha, hf1⟩
    rcases ha with ⟨ha1, ha2⟩ | ⟨ha1, ha2⟩
    · have hd : decide ((0 : Int) ≤ a) = false := by simp; omega
      go_wp2_with fail
      refine (impl_Grow_bad t a w1 (by omega) ha2).mono ?_
      rintro e w2 ⟨rfl, hf2⟩
      go_wp2_with fail
      refine (impl_GrowBuilder_bad t a _ (by omega) ha2).mono ?_
      rintro e w3 ⟨rfl, hf3⟩
      go_wp2_with fail
      go_ret
      exact ⟨rfl, ((((hf1.trans hf2).alloc _).alloc _).trans hf3).below (Nat.le_refl _) (by simp)⟩
    · obtain ⟨k, rfl⟩ := Int.eq_ofNat_of_zero_le ha1
      have hk : k ≤ 65535 := by omega
      have hd : decide ((0 : Int) ≤ (k : Int)) = true := by simp
      clear ha1 ha2
      go_wp2_with fail
      refine (impl_Grow_ok t k w1 (by omega) (by omega)).mono ?_
      rintro e w2 ⟨L, c1, a1, c2, a2, s, rfl, H, hf2⟩
      obtain ⟨rfl, h1, h2, h3, h4, h5, rfl, h6⟩ := H.out
      clear h1 h2 h5 H
      go_wp2_with fail
      refine (impl_GrowBuilder_ok s k _ (by omega) (by omega)).mono ?_
      rintro e w3 ⟨cb, sb, rfl, hcb, HB, hf3⟩
      obtain rfl := HB.out
      have hcd : decide ((sb.length : Int) + (k : Int) ≤ (cb : Int)) = true := by simp; omega
      clear HB
      go_wp2_with fail
      go_ret
      exact ⟨ret_true (by simp), ((((hf1.trans hf2).alloc _).alloc _).trans hf3).below (Nat.le_refl _) (by simp)⟩
  · refine (large_yes A n c w (by omega)).mono ?_
    rintro e w1 ⟨rfl, rfl⟩
    go_wp2_with fail
    go_ret
    exact ⟨rfl, Below.refl _ _⟩

end Go.Proofs.YtgniidnbpkhmcaaDoor
