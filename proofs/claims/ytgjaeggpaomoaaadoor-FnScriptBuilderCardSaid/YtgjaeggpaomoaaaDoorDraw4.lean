/- Drawn texts, numbers to truncate or grow by. -/
import Derived.Test.YtgjaeggpaomoaaaDoorDraw3
import Derived.Test.YtgjaeggpaomoaaaDoorNums
namespace Go.Proofs.YtgjaeggpaomoaaaDoor
open Go.RowKit
set_option linter.unusedVariables false
attribute [local go_sem ↓] Go.wp_at_zero Go.wp_at_succ

/-- The loop of texts: k more rounds. -/
def LongsRel (w : World) (r : Nat) (A : Option Addr) (n c : Nat) (l : List UInt8) (q : Nat) (v i : Value) (wr : World) : Prop :=
  ∃ (k : Nat) (ls : List (List UInt8)), k ≤ 5 ∧ i = .int .i64 (k : Int) ∧ ls.length + k ≤ 5 ∧ wr.ownsRow w.heap.size 9 1 v ls.length (ls.map sv) ∧ (∀ z ∈ ls, z.length ≤ 4096) ∧ Dr wr r A n c l (q + 20 * (5 - k)) ∧ Fr [] w wr

theorem sum_le (ls : List (List UInt8)) (h : ∀ z ∈ ls, z.length ≤ 4096) : (ls.map List.length).sum ≤ 4096 * ls.length := by
  induction ls with
  | nil => simp
  | cons x r ih =>
    have h1 := h x (by simp)
    have h2 := ih (fun z hz => h z (by simp [hz]))
    simp only [List.map_cons, List.sum_cons, List.length_cons]
    omega

theorem own_cap {w : World} {base : Nat} {e : TypeId} {size n c : Nat} {A : Option Addr} {xs : List Value} (h : w.ownsRow base e size (.slice A n c) n xs) : n ≤ c := by
  rcases h.2 with ⟨hv, h0⟩ | ⟨g, cap, cur, hv, _, _, hc, _⟩
  · omega
  · injection hv with _ _ hc'
    omega

/-- One of five numbers in a new row. -/
theorem ints5 (w : World) (r : Nat) (a0 a1 a2 a3 a4 : Int) (h0 : -9223372036854775808 ≤ a0 ∧ a0 ≤ 9223372036854775807) (h1 : -9223372036854775808 ≤ a1 ∧ a1 ≤ 9223372036854775807) (h2 : -9223372036854775808 ≤ a2 ∧ a2 ≤ 9223372036854775807) (h3 : -9223372036854775808 ≤ a3 ∧ a3 ≤ 9223372036854775807) (h4 : -9223372036854775808 ≤ a4 ∧ a4 ≤ 9223372036854775807) (hr : r < w.heap.size) :
    ∀ (W : World) (y : Nat), Fr [r] (w.alloc (.cells #[.int .i64 a0, .int .i64 a1, .int .i64 a2, .int .i64 a3, .int .i64 a4] 3)).drew W → y < 5 → ∃ a : Int, W.cell? ⟨w.heap.size, y, none⟩ = some (.int .i64 a) ∧ -9223372036854775808 ≤ a ∧ a ≤ 9223372036854775807 := by
  intro W y hf hy
  have hk := (Blk.drew (Blk.new w 3 #[.int .i64 a0, .int .i64 a1, .int .i64 a2, .int .i64 a3, .int .i64 a4])).fr hf (by simp; omega)
  have hc := hk.cell y
  rcases (show y = 0 ∨ y = 1 ∨ y = 2 ∨ y = 3 ∨ y = 4 by omega) with rfl | rfl | rfl | rfl | rfl
  · exact ⟨a0, hc, h0⟩
  · exact ⟨a1, hc, h1⟩
  · exact ⟨a2, hc, h2⟩
  · exact ⟨a3, hc, h3⟩
  · exact ⟨a4, hc, h4⟩

end Go.Proofs.YtgjaeggpaomoaaaDoor
