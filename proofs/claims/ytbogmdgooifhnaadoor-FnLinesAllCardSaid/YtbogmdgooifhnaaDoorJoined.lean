/- All texts of parts in order. -/
import Derived.Test.YtbogmdgooifhnaaDoorParts
import Derived.Test.YtbogmdgooifhnaaDoorLines
namespace Go.Proofs.YtbogmdgooifhnaaDoor
open Go.RowKit
set_option linter.unusedVariables false
attribute [local go_sem ↓] Go.wp_at_zero Go.wp_at_succ

/-- The texts in order. -/
def text (f : Nat → List UInt8 × Bool) : Nat → List UInt8
  | 0 => []
  | k + 1 => text f k ++ (f k).1
theorem text_mono (f : Nat → List UInt8 × Bool) (k : Nat) : ∀ m, (text f k).length ≤ (text f (k + m)).length
  | 0 => Nat.le_refl _
  | m + 1 => by
    have := text_mono f k m
    rw [show k + (m + 1) = (k + m) + 1 by omega, text, List.length_append]
    omega

theorem laws_joined (A : Option Addr) (n c : Nat) (f : Nat → List UInt8 × Bool) (w : World) (hA : Rs w A n 3 (pcells (parts f n))) (hn : n ≤ 1048576) (hT : (text f n).length ≤ 1048576) :
    Calls Tryd.prog 20 #[.slice A n c] w fun e w' => ∃ s, e = .returned (.string ⟨s.toArray⟩) ∧ Hid (s = text f n) ∧ Fr [] w w' := by
  go_enter Tryd.func20, Tryd.ntmps20
  go_wp2_with fail
  go_loopw [3, 8] (fun t i wr => ∃ k, k ≤ n ∧ i = .int .i64 (k : Int) ∧ t = .string ⟨(text f k).toArray⟩ ∧ Fr [] w wr) (fun _ i _ => n - (intOf i).toNat)
  case atStart => exact ⟨0, Nat.zero_le _, rfl, rfl, Fr.refl _ _⟩
  case round =>
    obtain ⟨k, hk, rfl, rfl, hf⟩ := hrel
    by_cases hlt : k < n
    · obtain ⟨ga, rfl, ca⟩ := (hA.fr_old hf (by simp)).get (by omega)
      obtain ⟨a0, a1, a2⟩ := pcells_get (parts f n) k (f k).1 (f k).2 (parts_get f n k hlt)
      have x0 := ca _ _ a0
      have x1 := ca _ _ a1
      have x2 := ca _ _ a2
      clear ca a0 a1 a2
      have hb : (text f k).length + (f k).1.length ≤ 1048576 := by
        have := text_mono f (k + 1) (n - (k + 1))
        rw [show k + 1 + (n - (k + 1)) = n by omega, text, List.length_append] at this
        omega
      have hs : text f (k + 1) = text f k ++ (f k).1 := rfl
      have HS := Lib.hid hs
      clear hs
      generalize text f k = t0 at *
      generalize (f k).1 = t at *
      generalize (f k).2 = e at *
      go_wp2_with fail
      go_roundw
      case rel => exact ⟨k + 1, by omega, by go_num, by rw [HS.out], hf.alloc _⟩
      case measure => simp [intOf]; omega
    · go_wp2_with fail
      go_ret
      obtain rfl : k = n := by omega
      exact ⟨_, rfl, rfl, hf⟩

end Go.Proofs.YtbogmdgooifhnaaDoor
