/- The law on Next. -/
import Derived.Test.YtgniidnbpkhmcaaDoorSpec
import Derived.Test.YtgniidnbpkhmcaaDoorChunks
import Derived.Deep.RegionWith
import Derived.Deep.DrawnRows
import Derived.LoopTactic
namespace Go.Proofs.YtgniidnbpkhmcaaDoor
open Go.RowKit
set_option linter.unusedVariables false
attribute [local go_sem ↓] Go.wp_at_zero Go.wp_at_succ

theorem infoSc : (Tryd.prog.info? 9).map (fun i => (i.zero, i.size, i.bytes)) = some (some (.string ByteArray.empty), 1, 16) := by kernel_rfl

/-- The loop of NextChunks. -/
def NextRel (w : World) (l : List UInt8) (zs : List Nat) (pad : List UInt8) (b g : Nat) (v i : Value) (wr : World) : Prop :=
  ∃ k off lr, k ≤ zs.length ∧ i = .int .i64 (k : Int) ∧ wr.ownsRow w.heap.size 9 1 v k ((chunks l zs k).map sv) ∧ Buf wr b (some g) (l ++ pad) l.length off lr ∧ off = min (tot zs k) l.length ∧ Fr [] w wr

/-- The loop of the reference's NextChunks. -/
def NextSRel (w : World) (l : List UInt8) (zs : List Nat) (s v i : Value) (wr : World) : Prop :=
  ∃ k, k ≤ zs.length ∧ i = .int .i64 (k : Int) ∧ s = .string ⟨(l.drop (tot zs k)).toArray⟩ ∧ wr.ownsRow w.heap.size 9 1 v k ((chunks l zs k).map sv) ∧ Fr [] w wr

end Go.Proofs.YtgniidnbpkhmcaaDoor
