/- The law on Len; draws. -/
import Derived.Test.YtjppokaeepapmaaDoorLawA
import Derived.Test.YtjppokaeepapmaaDoorLawB
import Derived.Test.YtjppokaeepapmaaDoorLawC
import Derived.Test.YtjppokaeepapmaaDoorDraw3
namespace Go.Proofs.YtjppokaeepapmaaDoor
open Go.RowKit
set_option linter.unusedVariables false
attribute [local go_sem ↓] Go.wp_at_zero Go.wp_at_succ

theorem DrawReset (A : Option Addr) (n c : Nat) (l : List UInt8) (w : World) (hS : Sl w A n l) (hn : n ≤ 1048576) :
    Calls Tryd.prog 33 #[.slice A n c] w fun e w' => ∃ (s : List UInt8) (z : Nat) (t : List UInt8), e = .returned (.tuple #[.string ⟨s.toArray⟩, .int .u16 (z : Int), .string ⟨t.toArray⟩]) ∧ s.length ≤ 4096 ∧ z ≤ 4335 ∧ t.length ≤ 16 ∧ Fr [] w w' := by
  go_enter Tryd.func33, Tryd.ntmps33
  go_wp2_with fail
  refine (rd_long _ w.heap.size A n c l 0 (Dr.made hS hn) (by omega)).mono ?_
  rintro e w1 ⟨s, rfl, hs, hD1, hf1⟩
  go_wp2_with fail
  refine (rd_size w1 w.heap.size A n c l _ hD1 (by omega)).mono ?_
  rintro e w2 ⟨z, rfl, hz, hD2, hf2⟩
  go_wp2_with fail
  refine (rd_text w2 w.heap.size A n c l _ 4 hD2 (by omega) (by omega)).mono ?_
  rintro e w3 ⟨t, rfl, ht, hD3, hf3⟩
  go_wp2_with fail
  go_ret3
  exact ⟨s, z, t, rfl, hs, hz, by omega, ((((Fr.refl [] w).alloc _).trans_of hf1 (by simp)).trans_of hf2 (by simp)).trans_of hf3 (by simp)⟩

theorem slv_one' (w : World) (u : Value) (e : TypeId) : Slv (w.alloc (.cells #[u] e)) (some ⟨w.heap.size, 0, none⟩) 1 [u] := slv_new w #[u] e

end Go.Proofs.YtjppokaeepapmaaDoor
