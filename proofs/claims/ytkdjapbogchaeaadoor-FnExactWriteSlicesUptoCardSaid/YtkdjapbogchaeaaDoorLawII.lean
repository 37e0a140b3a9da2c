/- The law on slices that are written. -/
import Derived.Test.YtkdjapbogchaeaaDoorLawCC
namespace Go.Proofs.YtkdjapbogchaeaaDoor
open Go.RowKit
set_option linter.unusedVariables false
attribute [local go_sem ↓] Go.wp_at_zero Go.wp_at_succ

set_option maxRecDepth 100000 in
set_option maxHeartbeats 1600000 in
theorem FnExactWriteSlices_walk (A0 : Option Addr) (n0 c0 : Nat) (l : List UInt8) (A : Option Addr) (n c : Nat) (ls : List (List UInt8)) (w : World) (hS0 : Sl w A0 n0 l) (hS : Sls w A n ls) (hN : n0 + ((ls.map List.length).sum + n) ≤ 1048576) :
    Calls Tryd.prog 7 #[.slice A0 n0 c0, .slice A n c] w fun e w' => e = .returned (.bool true) ∧ Below w.heap.size w w' := by
  go_enter Tryd.func7, Tryd.ntmps7
  go_wp2_with fail
  refine (impl_WriteSlices A0 n0 c0 l A n c ls w hS0 hS (by omega)).mono ?_
  rintro e w1 ⟨A1, c1, s1, rfl, hS1, H1, hf1⟩
  have hl0 : l.length ≤ 1048576 := by have := hS0.1; omega
  have HT := Lib.hid fun W (hW : Fr [] w1 W) => laws_texts A n c ls W (hS.fr_old (hf1.trans hW) (by simp)) (by omega)
  have HS1 := Lib.hid fun W (hW : Fr [] w1 W) => hS1.fr_old hW (by simp)
  have HST := Lib.hid fun W (hW : Fr [] w1 W) => run_string_sl (P := Tryd.prog) (hS0.fr_old' (hf1.trans hW)) 26 9 5 c0 Tryd.underlying26 Tryd.underlying5 Tryd.underlying9
  have hst1 := HST.out w1.drew (Fr.refl [] w1).drew
  have hsum : (ls.map List.length).sum ≤ 1048576 := by omega
  have hn9 : n ≤ 1048576 := by omega
  clear hS hS0 hS1 hN
  go_wp2_with fail
  go_region_with (first
    | (go_at_call 24; ((with_reducible refine (HT.out _ (by first | exact (Fr.refl [] w1).drew | assumption)).mono ?_); rintro e w2 ⟨A2, c2, rfl, hS2, hf2⟩; have hF2 : Fr [] w1 w2 := (by first | exact (Fr.refl [] w1).drew.trans hf2 | exact Fr.trans (by assumption) hf2); have hst2 := HST.out w2 hF2))
    | (go_at_call 23; ((with_reducible refine (laws_lengths _ _ _ ls _ (by assumption) (by omega)).mono ?_); rintro e w3 ⟨A3, c3, rfl, hS3, hf3⟩; have hF3 : Fr [] w1 w3 := Fr.trans (by assumption) hf3; have hst3 := HST.out w3 hF3))
    | (go_at_call 22; ((with_reducible refine (sameNumbers_true _ _ _ _ _ _ _ (HS1.out _ (by assumption)) (by assumption) (by omega)).mono ?_); rintro e w4 ⟨rfl, hf4⟩; have hF4 : Fr [] w1 w4 := Fr.trans (by assumption) hf4; have hst4 := HST.out w4 hF4))
    | (go_at_call 25; ((with_reducible refine (spec_Joined _ _ _ ls _ (by assumption) (by omega) (by omega)).mono ?_); rintro e w6 ⟨s2, rfl, H2, rfl⟩; have h2l : s2.length ≤ 1048576 := (by rw [H2.out, List.length_flatten]; omega))))
  all_goals
    go_wp2_with fail
    go_ret
    exact ⟨ret_true (by rw [H1.out, H2.out]; simp), (hf1.trans (by assumption)).below (Nat.le_refl _) (by simp)⟩

end Go.Proofs.YtkdjapbogchaeaaDoor
