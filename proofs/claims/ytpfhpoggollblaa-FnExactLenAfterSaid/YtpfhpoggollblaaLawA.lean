/- The walks of the first laws. -/
import Derived.Test.YtpfhpoggollblaaSpec
namespace Go.Proofs.Ytpfhpoggollblaa
open Go.RowKit
set_option linter.unusedVariables false

theorem impl_LenAfter (l : List UInt8) (n : Nat) (w : World) (hl : l.length ≤ 9223372036854775807) (hn : n ≤ 65535) :
    Calls Try.prog 14 #[.string ⟨l.toArray⟩, .int .u16 (n : Int)] w fun e w' => e = .returned (.int .i64 ((l.length - min n l.length : Nat) : Int)) ∧ Fr [] w w' := by
  go_enter Try.func14, Try.ntmps14
  go_wp2_with fail
  refine (NewBufferString _ _ hl).mono ?_
  rintro e w1 ⟨b, g, pad, rfl, hB, hf, hb, hg⟩
  go_wp2_with fail
  refine (Buffer_Next _ hB n).mono ?_
  rintro e w2 ⟨rfl, hB2, hf2⟩
  go_wp2_with fail
  refine (Buffer_Len _ hB2).mono ?_
  rintro e w3 ⟨rfl, n3, rfl⟩
  go_wp2_with fail
  go_ret
  exact ⟨ret_int (by omega), (hf.trans_of hf2 (by simp; omega)).drewN _⟩

theorem FnExactLenAfter_walk (l : List UInt8) (n : Nat) (w : World) (hl : l.length ≤ 9223372036854775807) (hn : n ≤ 65535) :
    Calls Try.prog 6 #[.string ⟨l.toArray⟩, .int .u16 (n : Int)] w fun e w' => e = .returned (.bool true) ∧ Below w.heap.size w w' := by
  go_enter Try.func6, Try.ntmps6
  go_wp2_with fail
  refine (impl_LenAfter l n w hl hn).mono ?_
  rintro e w1 ⟨rfl, hf⟩
  go_wp2_with fail
  refine (spec_From l n w1 hl).mono ?_
  rintro e w2 ⟨rfl, rfl⟩
  go_wp2_with fail
  go_ret
  exact ⟨ret_true (by simp; omega), hf.below (Nat.le_refl _) (by simp)⟩
end Go.Proofs.Ytpfhpoggollblaa
