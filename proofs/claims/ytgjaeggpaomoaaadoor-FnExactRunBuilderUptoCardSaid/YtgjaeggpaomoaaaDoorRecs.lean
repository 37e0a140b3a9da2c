/- Slices of records, as the cells that they have: plain facts. -/
import Derived.Test.YtgjaeggpaomoaaaDoorMem
namespace Go.Proofs.YtgjaeggpaomoaaaDoor
set_option linter.unusedVariables false

theorem recs_length {α : Type} (f : α → List Value) (s : Nat) (hs : ∀ x, (f x).length = s) : ∀ xs : List α, (xs.flatMap f).length = xs.length * s
  | [] => by simp
  | x :: r => by rw [List.flatMap_cons, List.length_append, hs, recs_length f s hs r, List.length_cons, Nat.succ_mul]; omega
theorem recs_get {α : Type} (f : α → List Value) (s : Nat) (hs : ∀ x, (f x).length = s) : ∀ (xs : List α) (k j : Nat) (x : α), xs[k]? = some x → j < s → (xs.flatMap f)[k * s + j]? = (f x)[j]?
  | [], k, j, x, h, hj => by simp at h
  | y :: r, 0, j, x, h, hj => by
    simp at h
    subst h
    rw [List.flatMap_cons, Nat.zero_mul, Nat.zero_add, List.getElem?_append_left (by rw [hs]; exact hj)]
  | y :: r, k + 1, j, x, h, hj => by
    rw [List.flatMap_cons, List.getElem?_append_right (by rw [hs, Nat.succ_mul]; omega), hs, show (k + 1) * s + j - s = k * s + j by rw [Nat.succ_mul]; omega]
    exact recs_get f s hs r k j x (by simpa using h) hj
theorem recs_snoc {α : Type} (f : α → List Value) (xs : List α) (x : α) : (xs ++ [x]).flatMap f = xs.flatMap f ++ f x := by simp

end Go.Proofs.YtgjaeggpaomoaaaDoor
