/- Parts: what calls returned, as data and a mark. -/
import Derived.Test.YtgjaeggpaomoaaaDoorEof
import Derived.Test.YtgjaeggpaomoaaaDoorChunks
import Derived.LoopTactic
namespace Go.Proofs.YtgjaeggpaomoaaaDoor
open Go.RowKit
set_option linter.unusedVariables false
attribute [local go_sem ↓] Go.wp_at_zero Go.wp_at_succ

/-- Parts of the package, as cells. -/
def pcells : List (List UInt8 × Bool) → List Value
  | [] => []
  | (t, e) :: r => sv t :: .bool e :: .bool false :: pcells r
/-- Parts of the reference, as cells. -/
def scells : List (List UInt8 × Bool) → List Value
  | [] => []
  | (t, e) :: r => sv t :: .bool e :: scells r
theorem pcells_length : ∀ ps, (pcells ps).length = ps.length * 3
  | [] => rfl
  | _ :: r => by simp [pcells, pcells_length r]; omega
theorem scells_length : ∀ ps, (scells ps).length = ps.length * 2
  | [] => rfl
  | _ :: r => by simp [scells, scells_length r]; omega
theorem pcells_append : ∀ ps qs, pcells (ps ++ qs) = pcells ps ++ pcells qs
  | [], _ => rfl
  | x :: r, qs => by simp [pcells, pcells_append r qs]
theorem scells_append : ∀ ps qs, scells (ps ++ qs) = scells ps ++ scells qs
  | [], _ => rfl
  | x :: r, qs => by simp [scells, scells_append r qs]
theorem pcells_get : ∀ (ps : List (List UInt8 × Bool)) (k : Nat) (t : List UInt8) (e : Bool), ps[k]? = some (t, e) → (pcells ps)[k * 3]? = some (.string ⟨t.toArray⟩) ∧ (pcells ps)[k * 3 + 1]? = some (.bool e) ∧ (pcells ps)[k * 3 + 2]? = some (.bool false)
  | [], k, t, e, h => by simp at h
  | (t', e') :: r, 0, t, e, h => by simp at h; obtain ⟨rfl, rfl⟩ := h; simp [pcells, sv]
  | (t', e') :: r, k + 1, t, e, h => by
    have := pcells_get r k t e (by simpa using h)
    rw [show (k + 1) * 3 = k * 3 + 3 by omega]
    simpa [pcells] using this
theorem scells_get : ∀ (ps : List (List UInt8 × Bool)) (k : Nat) (t : List UInt8) (e : Bool), ps[k]? = some (t, e) → (scells ps)[k * 2]? = some (.string ⟨t.toArray⟩) ∧ (scells ps)[k * 2 + 1]? = some (.bool e)
  | [], k, t, e, h => by simp at h
  | (t', e') :: r, 0, t, e, h => by simp at h; obtain ⟨rfl, rfl⟩ := h; simp [scells, sv]
  | (t', e') :: r, k + 1, t, e, h => by
    have := scells_get r k t e (by simpa using h)
    rw [show (k + 1) * 2 = k * 2 + 2 by omega]
    simpa [scells] using this

/-- The first k of a sequence of parts. -/
def parts (f : Nat → List UInt8 × Bool) (k : Nat) : List (List UInt8 × Bool) := (List.range k).map f
theorem parts_succ (f : Nat → List UInt8 × Bool) (k : Nat) : parts f (k + 1) = parts f k ++ [f k] := by simp [parts, List.range_succ]
theorem parts_get (f : Nat → List UInt8 × Bool) (n k : Nat) (h : k < n) : (parts f n)[k]? = some (f k) := by simp [parts, h]
theorem parts_length (f : Nat → List UInt8 × Bool) (n : Nat) : (parts f n).length = n := by simp [parts]

end Go.Proofs.YtgjaeggpaomoaaaDoor
