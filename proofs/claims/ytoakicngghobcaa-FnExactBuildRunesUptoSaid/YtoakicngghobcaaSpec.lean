/- Contracts of the reference's small functions. -/
import Derived.Test.YtoakicngghobcaaBuf
namespace Go.Proofs.Ytoakicngghobcaa
open Go.RowKit
set_option linter.unusedVariables false

theorem drop_of_gt {l : List UInt8} {n : Nat} (h : l.length < n) : l.drop n = [] := List.drop_eq_nil_of_le (by omega)

theorem spec_From (l : List UInt8) (n : Nat) (w : World) (hl : l.length ≤ 9223372036854775807) :
    Calls Try.prog 37 #[.string ⟨l.toArray⟩, .int .i64 (n : Int)] w fun e w' => e = .returned (.string ⟨(l.drop n).toArray⟩) ∧ w = w' := by
  by_cases h : n ≤ l.length
  · go_enter Try.func37, Try.ntmps37
    go_wp2
    go_ret
    exact ⟨rfl, rfl⟩
  · have h' : l.length < n := by omega
    rw [drop_of_gt h']
    clear h
    go_enter Try.func37, Try.ntmps37
    go_wp2
    go_ret
    exact ⟨rfl, rfl⟩

end Go.Proofs.Ytoakicngghobcaa
