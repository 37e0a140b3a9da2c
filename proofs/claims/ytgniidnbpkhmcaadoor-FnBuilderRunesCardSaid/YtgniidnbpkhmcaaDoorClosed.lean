/- Closed facts of the program that every row of the seat asks. -/
import Derived.Test.YtgniidnbpkhmcaaDoorRows
import Derived.ProofKit
namespace Go.Proofs.YtgniidnbpkhmcaaDoor
open Go

theorem seat_enters : Tryd.pinned.checked.prog.mayEnter = true := by kernel_rfl
theorem seat_lifts : (false == Tryd.pinned.checked.prog.liftsFinal) = true := by kernel_rfl
theorem seat_make : (Tryd.pinned.checked.prog.make == some .cut) = true := by kernel_rfl
theorem and2 {a b : Bool} (ha : a = true) (hb : b = true) : (a && b) = true := by rw [ha, hb]; rfl

end Go.Proofs.YtgniidnbpkhmcaaDoor
