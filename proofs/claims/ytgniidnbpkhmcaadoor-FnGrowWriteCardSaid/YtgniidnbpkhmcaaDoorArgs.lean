/- What an argument that came in reads as, in the walks' words; how much the second form's bound says of it. -/
import Derived.Test.YtgniidnbpkhmcaaDoorRows
import Derived.Test.YtgniidnbpkhmcaaDoorMem
import Derived.ProofKit
import Derived.SliceStrings
namespace Go.Proofs.YtgniidnbpkhmcaaDoor
open Go.RowKit Go.WideShapes Go.ChangeShapes
set_option linter.unusedVariables false

theorem bulk_one {H : Type} (d : DataW H) : 1 ≤ Rows.uptoBulk d := by
  cases d with
  | lit l => cases l <;> simp [Rows.uptoBulk]
  | _ => simp [Rows.uptoBulk]
theorem bulk_length {H : Type} (l : List (DataW H)) : l.length ≤ Rows.uptoBulkAll l := by
  induction l with
  | nil => simp [Rows.uptoBulkAll]
  | cons x r ih => have := bulk_one x; simp only [Rows.uptoBulkAll, List.length_cons]; omega
theorem bulk_slice {H : Type} (elems spare : List (DataW H)) : Rows.uptoBulkAll elems + 1 ≤ Rows.uptoBulk (.slice elems spare) := by
  simp only [Rows.uptoBulk]
  omega
theorem bulk_slice_length {H : Type} (elems spare : List (DataW H)) : elems.length + 1 ≤ Rows.uptoBulk (.slice elems spare) := by
  have := bulk_slice elems spare
  have := bulk_length elems
  omega

theorem cell_of_take {W : World} {x : Addr} {len : Nat} {zs : List Int} {k : IntKind} (hcell : ∀ i, i < zs.length → W.cell? (x.add i) = some (.int k (zs.getD i 0))) :
    ∀ j (hj : j < (zs.take len).length), W.cell? (x.add j) = some (.int k ((zs.take len)[j])) := by
  intro j hj
  have hj' : j < zs.length := by simp at hj; omega
  rw [hcell j hj']
  simp [List.getD, hj']

theorem sl_of_ints {W : World} {x : Addr} {len cap : Nat} {zs : List Int} (hl : len ≤ cap) (hz : zs.length = cap) (hcell : ∀ i, i < zs.length → W.cell? (x.add i) = some (.int .u8 (zs.getD i 0))) (hwz : ∀ n ∈ zs, (Lit.int .u8 n).wf = true) :
    Sl W (some x) len ((zs.take len).map fun z => UInt8.ofNat z.toNat) := by
  refine ⟨by simp; omega, fun j hj => ⟨x, rfl, ?_⟩⟩
  have hj' : j < (zs.take len).length := by simpa using hj
  rw [cell_of_take hcell j hj']
  have hm : (zs.take len)[j] ∈ zs := List.mem_of_mem_take (List.getElem_mem hj')
  have hb := hwz _ hm
  simp [Lit.wf, IntKind.min, IntKind.max, IntKind.signed, IntKind.bits] at hb
  simp [bv] at hb ⊢
  omega
theorem slv_of_ints {W : World} {x : Addr} {len cap : Nat} {zs : List Int} {k : IntKind} (hl : len ≤ cap) (hz : zs.length = cap) (hcell : ∀ i, i < zs.length → W.cell? (x.add i) = some (.int k (zs.getD i 0))) :
    Slv W (some x) len ((zs.take len).map fun z => .int k z) := by
  refine ⟨by simp; omega, fun j hj => ⟨x, rfl, ?_⟩⟩
  have hj' : j < (zs.take len).length := by simpa using hj
  rw [cell_of_take hcell j hj']
  simp
theorem slv_of_u16 {W : World} {x : Addr} {len cap : Nat} {zs : List Int} (hl : len ≤ cap) (hz : zs.length = cap) (hcell : ∀ i, i < zs.length → W.cell? (x.add i) = some (.int .u16 (zs.getD i 0))) (hwz : ∀ n ∈ zs, (Lit.int .u16 n).wf = true) :
    ∃ ns : List Nat, ns.length = (zs.take len).length ∧ Slv W (some x) len (ns.map fun z : Nat => Value.int .u16 (z : Int)) ∧ ∀ z ∈ ns, z ≤ 65535 := by
  have hb : ∀ z ∈ zs.take len, 0 ≤ z ∧ z ≤ 65535 := fun z hz => by
    have := hwz z (List.mem_of_mem_take hz)
    simpa [Lit.wf, IntKind.min, IntKind.max, IntKind.signed, IntKind.bits] using this
  refine ⟨(zs.take len).map Int.toNat, by simp, ?_, ?_⟩
  · have := slv_of_ints hl hz hcell
    have e : ((zs.take len).map Int.toNat).map (fun z : Nat => Value.int .u16 (z : Int)) = (zs.take len).map fun z => .int .u16 z := by
      rw [List.map_map]
      refine List.map_congr_left fun z hz => ?_
      simp only [Function.comp]
      rw [Int.toNat_of_nonneg (hb z hz).1]
    rw [e]
    exact this
  · intro z hz
    obtain ⟨y, hy, rfl⟩ := List.mem_map.1 hz
    have := hb y hy
    omega
theorem slv_of_strs {W : World} {x : Addr} {len cap : Nat} {ss : List ByteArray} (hl : len ≤ cap) (hz : ss.length = cap) (hcell : ∀ i, i < ss.length → W.cell? (x.add i) = some (.string (ss.getD i ByteArray.empty))) :
    Slv W (some x) len (((ss.take len).map fun s => s.data.toList).map fun l => .string ⟨l.toArray⟩) := by
  refine ⟨by simp; omega, fun j hj => ⟨x, rfl, ?_⟩⟩
  have hj' : j < ss.length ∧ j < len := by simp at hj; omega
  rw [hcell j hj'.1]
  simp [List.getD, hj'.1]
/-- The bulk of strings. -/
theorem bulk_strs {H : Type} (ss : List ByteArray) : ((ss.map fun s => s.data.toList).map List.length).sum + ss.length = Rows.uptoBulkAll (strs (H := H) ss) := by
  induction ss with
  | nil => simp [strs, Rows.uptoBulkAll]
  | cons s r ih =>
    simp only [strs, List.map_cons, Rows.uptoBulkAll, Rows.uptoBulk, List.sum_cons, List.length_cons] at ih ⊢
    omega

end Go.Proofs.YtgniidnbpkhmcaaDoor
