/- The contracts of bytes.Buffer's functions that do not grow it. -/
import Derived.Test.YtgniidnbpkhmcaaProg
import Derived.Test.YtgniidnbpkhmcaaMem
import Derived.WalkKit
import Derived.WalkLawsBesides
import Derived.WalkSpells
import Derived.Outline
import Derived.Deep.QuietTactic
import Derived.BigQuiet
namespace Go.Proofs.Ytgniidnbpkhmcaa
open Go.RowKit
set_option linter.unusedVariables false

theorem vint {k : IntKind} {a b : Int} (h : a = b) : Value.int k a = .int k b := by rw [h]
theorem ret_int {k : IntKind} {a b : Int} (h : a = b) : Ending.returned (.int k a) = .returned (.int k b) := by rw [h]
theorem ret_true {c : Bool} (h : c = true) : Ending.returned (.bool c) = .returned (.bool true) := by rw [h]
theorem size5 : (Try.prog.info? 5).map (fun i => i.size) = some 1 := by kernel_rfl

section
end
end Go.Proofs.Ytgniidnbpkhmcaa
