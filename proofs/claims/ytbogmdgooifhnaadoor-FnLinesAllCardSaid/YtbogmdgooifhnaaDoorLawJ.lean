/- The exact laws on reads. -/
import Derived.Test.YtbogmdgooifhnaaDoorLawH
namespace Go.Proofs.YtbogmdgooifhnaaDoor
open Go.RowKit
set_option linter.unusedVariables false
attribute [local go_sem ↓] Go.wp_at_zero Go.wp_at_succ

theorem FnExactReadChunks_walk (l : List UInt8) (A : Option Addr) (n c : Nat) (zs : List Nat) (w : World) (a : Addr) (hE : Eof w a) (hl : l.length ≤ 9223372036854775807) (hS : Slv w A n (zs.map fun z : Nat => Value.int .u16 (z : Int))) (hz : ∀ z ∈ zs, z ≤ 65535) (hN : l.length + n ≤ 1048576) :
    Calls Tryd.prog 8 #[.string ⟨l.toArray⟩, .slice A n c] w fun e w' => e = .returned (.bool true) ∧ Below w.heap.size w w' := by
  go_enter Tryd.func8, Tryd.ntmps8
  go_wp2_with fail
  refine (impl_ReadChunks l A n c zs w a hE hS hz hN).mono ?_
  rintro e w1 ⟨A1, c1, s1, rfl, hS1, H1, hf1⟩
  go_wp2_with fail
  refine (spec_ReadChunks l A n c zs w1 (hS.fr_old hf1 (by simp)) hz hN).mono ?_
  rintro e w2 ⟨A2, c2, s2, rfl, hS2, H2, hf2⟩
  go_wp2_with fail
  refine (sameParts_true A1 A2 n c1 c2 _ w2 (hS1.fr_old hf2 (by simp)) hS2 (by omega)).mono ?_
  rintro e w3 ⟨rfl, hf3⟩
  obtain rfl : s1 = s2 := by rw [H1.out, H2.out]
  go_wp2_with fail
  go_ret
  exact ⟨rfl, ((hf1.trans hf2).trans hf3).below (Nat.le_refl _) (by simp)⟩

theorem FnExactReadSingles_walk (l : List UInt8) (n : Nat) (w : World) (a : Addr) (hE : Eof w a) (hl : l.length ≤ 9223372036854775807) (hn : n ≤ 65535) :
    Calls Tryd.prog 5 #[.string ⟨l.toArray⟩, .int .u16 (n : Int)] w fun e w' => e = .returned (.bool true) ∧ Below w.heap.size w w' := by
  go_enter Tryd.func5, Tryd.ntmps5
  go_wp2_with fail
  refine (impl_ReadSingles l n w a hE hn hl).mono ?_
  rintro e w1 ⟨A1, c1, s1, rfl, hS1, H1, hf1⟩
  go_wp2_with fail
  refine (spec_ReadSingles l n w1 hn hl).mono ?_
  rintro e w2 ⟨A2, c2, s2, rfl, hS2, H2, hf2⟩
  go_wp2_with fail
  refine (sameParts_true A1 A2 n c1 c2 _ w2 (hS1.fr_old hf2 (by simp)) hS2 (by omega)).mono ?_
  rintro e w3 ⟨rfl, hf3⟩
  obtain rfl : s1 = s2 := by rw [H1.out, H2.out]
  go_wp2_with fail
  go_ret
  exact ⟨rfl, ((hf1.trans hf2).trans hf3).below (Nat.le_refl _) (by simp)⟩

end Go.Proofs.YtbogmdgooifhnaaDoor
