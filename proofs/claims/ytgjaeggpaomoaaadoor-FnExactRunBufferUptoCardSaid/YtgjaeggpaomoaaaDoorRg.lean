/- Slices of records that lie anywhere: plain facts. -/
import Derived.Test.YtgjaeggpaomoaaaDoorMem
namespace Go.Proofs.YtgjaeggpaomoaaaDoor
open Go.RowKit
set_option linter.unusedVariables false

/-- A slice whose elements have several cells, anywhere: what it reads as. -/
def Rg (w : World) (A : Option Addr) (n size : Nat) (vs : List Value) : Prop := vs.length = n * size ∧ (0 < n → ∃ ad : Addr, A = some ad ∧ ∀ j (hj : j < vs.length), w.cell? (ad.add j) = some vs[j])
theorem Rs.rg {w : World} {A : Option Addr} {n size : Nat} {vs : List Value} (h : Rs w A n size vs) : Rg w A n size vs := by
  refine ⟨h.1, fun h0 => ?_⟩
  obtain ⟨g, rfl, hc⟩ := h.2 h0
  refine ⟨_, rfl, fun j hj => ?_⟩
  rw [add_at, Nat.zero_add]
  exact hc j hj
theorem Rg.fr_old {S : List Nat} {w w' : World} {A : Option Addr} {n size : Nat} {vs : List Value} (h : Rg w A n size vs) (hf : Fr S w w') (hn : ∀ k ∈ S, w.heap.size ≤ k) : Rg w' A n size vs := by
  refine ⟨h.1, fun h0 => ?_⟩
  obtain ⟨ad, rfl, hc⟩ := h.2 h0
  refine ⟨ad, rfl, fun j hj => ?_⟩
  have hlt := block_lt_of_cell (hc j hj)
  rw [hf.cell hlt (fun hs => by have := hn _ hs; omega)]
  exact hc j hj
theorem Rg.get {w : World} {A : Option Addr} {n size : Nat} {vs : List Value} (h : Rg w A n size vs) (h0 : 0 < n) : ∃ ad, A = some ad ∧ (∀ i u, vs[i]? = some u → w.cell? (ad.add i) = some u) ∧ ∀ i j u, vs[i + (j + 1)]? = some u → w.cell? ⟨(ad.add i).block, (ad.add i).off + (j + 1), none⟩ = some u := by
  obtain ⟨ad, rfl, hc⟩ := h.2 h0
  refine ⟨ad, rfl, fun i u hu => ?_, fun i j u hu => ?_⟩
  · obtain ⟨hj, rfl⟩ := List.getElem?_eq_some_iff.1 hu
    exact hc i hj
  · obtain ⟨hj, rfl⟩ := List.getElem?_eq_some_iff.1 hu
    have := hc (i + (j + 1)) hj
    rw [← add_add] at this
    rw [← this]
    simp [Addr.add]

end Go.Proofs.YtgjaeggpaomoaaaDoor
