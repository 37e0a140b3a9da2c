/- Contracts of the reference's small functions. -/
import Derived.Test.YtgniidnbpkhmcaaDoorBuf
namespace Go.Proofs.YtgniidnbpkhmcaaDoor
open Go.RowKit
set_option linter.unusedVariables false

theorem drop_of_gt {l : List UInt8} {n : Nat} (h : l.length < n) : l.drop n = [] := List.drop_eq_nil_of_le (by omega)

end Go.Proofs.YtgniidnbpkhmcaaDoor
