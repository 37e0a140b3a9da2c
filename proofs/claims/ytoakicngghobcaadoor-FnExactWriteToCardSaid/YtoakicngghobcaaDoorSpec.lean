/- Contracts of the reference's small functions. -/
import Derived.Test.YtoakicngghobcaaDoorBuf
namespace Go.Proofs.YtoakicngghobcaaDoor
open Go.RowKit
set_option linter.unusedVariables false

theorem drop_of_gt {l : List UInt8} {n : Nat} (h : l.length < n) : l.drop n = [] := List.drop_eq_nil_of_le (by omega)

theorem spec_From (l : List UInt8) (n : Nat) (w : World) (hl : l.length ≤ 9223372036854775807) :
    Calls Tryd.prog 6 #[.string ⟨l.toArray⟩, .int .i64 (n : Int)] w fun e w' => e = .returned (.string ⟨(l.drop n).toArray⟩) ∧ w = w' := by
  by_cases h : n ≤ l.length
  · go_enter Tryd.func6, Tryd.ntmps6
    go_wp2
    go_ret
    exact ⟨rfl, rfl⟩
  · have h' : l.length < n := by omega
    rw [drop_of_gt h']
    clear h
    go_enter Tryd.func6, Tryd.ntmps6
    go_wp2
    go_ret
    exact ⟨rfl, rfl⟩

theorem spec_First (l : List UInt8) (n : Nat) (w : World) (hl : l.length ≤ 9223372036854775807) :
    Calls Tryd.prog 5 #[.string ⟨l.toArray⟩, .int .i64 (n : Int)] w fun e w' => e = .returned (.string ⟨(l.take n).toArray⟩) ∧ w = w' := by
  by_cases h : n ≤ l.length
  · go_enter Tryd.func5, Tryd.ntmps5
    go_wp2
    go_ret
    exact ⟨rfl, rfl⟩
  · have h' : l.length < n := by omega
    rw [List.take_of_length_le (by omega)]
    clear h
    go_enter Tryd.func5, Tryd.ntmps5
    go_wp2
    go_ret
    exact ⟨rfl, rfl⟩

end Go.Proofs.YtoakicngghobcaaDoor
