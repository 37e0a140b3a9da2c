/- Reads of given sizes, as plain lists. -/
import Derived.Test.YtgniidnbpkhmcaaDoorMem
namespace Go.Proofs.YtgniidnbpkhmcaaDoor
set_option linter.unusedVariables false

/-- A text as a value. -/
def sv (l : List UInt8) : Value := .string ⟨l.toArray⟩
/-- What is taken before the k-th read. -/
def tot (zs : List Nat) (k : Nat) : Nat := (zs.take k).sum
theorem tot_zero (zs : List Nat) : tot zs 0 = 0 := by simp [tot]
theorem tot_succ (zs : List Nat) (k z : Nat) (h : zs[k]? = some z) : tot zs (k + 1) = tot zs k + z := by
  obtain ⟨hk, rfl⟩ := List.getElem?_eq_some_iff.1 h
  simp only [tot]
  rw [List.take_succ_eq_append_getElem hk, List.sum_append]
  simp
/-- The k-th chunk. -/
def chunk (l : List UInt8) (zs : List Nat) (k : Nat) : List UInt8 := (l.drop (tot zs k)).take (zs.getD k 0)
def chunks (l : List UInt8) (zs : List Nat) (k : Nat) : List (List UInt8) := (List.range k).map (chunk l zs)
theorem chunks_length (l : List UInt8) (zs : List Nat) (k : Nat) : (chunks l zs k).length = k := by simp [chunks]
theorem chunks_succ (l : List UInt8) (zs : List Nat) (k : Nat) : chunks l zs (k + 1) = chunks l zs k ++ [chunk l zs k] := by simp [chunks, List.range_succ]
theorem chunk_eq (l : List UInt8) (zs : List Nat) (k z : Nat) (h : zs[k]? = some z) : chunk l zs k = (l.drop (tot zs k)).take z := by
  obtain ⟨hk, rfl⟩ := List.getElem?_eq_some_iff.1 h
  simp [chunk, List.getD, hk]
theorem drop_min (l : List UInt8) (n : Nat) : l.drop (min n l.length) = l.drop n := by
  by_cases h : n ≤ l.length
  · rw [show min n l.length = n by omega]
  · rw [List.drop_eq_nil_of_le (by omega), List.drop_eq_nil_of_le (by omega)]
end Go.Proofs.YtgniidnbpkhmcaaDoor
