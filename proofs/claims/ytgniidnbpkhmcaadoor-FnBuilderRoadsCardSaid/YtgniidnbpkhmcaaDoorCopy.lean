/- copy into a row of bytes; a row written over; more on buffers. -/
import Derived.Test.YtgniidnbpkhmcaaDoorMem
import Derived.Laws.IdiomCopy
import Derived.Lib.SlBuf
import Derived.Lib.LazyBuf
namespace Go.Proofs.YtgniidnbpkhmcaaDoor
open Go.RowKit
set_option linter.unusedVariables false

theorem over_zero_take (l vs : List UInt8) : over l 0 vs = vs ++ l.drop vs.length := by simp [over]

theorem row_setCells {w : World} {g : Nat} {row : List UInt8} (hR : Row w g row) (o : Nat) (l : List UInt8) (h : o + l.length ≤ row.length) : Row (w.setCells g o (l.map bv)) g (over row o l) := by
  obtain ⟨lo, hi, h1, h2⟩ := hR
  refine ⟨lo, hi, ?_, ?_⟩
  · have := heap_setCells g 5 (lo, hi) (l.map bv) o w (bvs row) h1 (by simpa [bvs] using h)
    rw [this]
    congr 2
    simp [bvs, over_map]
  · rw [over_length row o l h]
    exact h2

/-- copy(row[o:], p). -/
theorem run_copy_sl {P : Program} {w : World} {g : Nat} {row : List UInt8} (hR : Row w g row) {A : Option Addr} {m : Nat} {l : List UInt8} (hS : Sl w A m l) (dT sT ty : TypeId) (hu : P.underlying dT = some (.slice 5)) (hs : (P.info? 5).map (·.size) = some 1)
    (o dl dc c : Nat) (hd : o + dl ≤ row.length) :
    (Builtin.copy_ #[dT, sT] ty #[.slice (cutA (some ⟨g, 0, none⟩) row.length o) dl dc, .slice A m c]).run P w = .ok (.int .i64 ((min m dl : Nat) : Int)) (w.setCells g o ((l.take dl).map bv)) := by
  by_cases h0 : min m dl = 0
  · have hl : l.take dl = [] := by
      have := hS.1
      apply List.eq_nil_of_length_eq_zero
      rw [List.length_take]
      omega
    rw [run_copy_none (P := P) w dT sT ty 5 _ A dl dc m c hu hs h0, h0, hl]
    rfl
  · have hl := hS.1
    have hlen : (l.take dl).length = min m dl := by rw [List.length_take]; omega
    obtain ⟨ad, rfl, _⟩ := hS.2 0 (by omega)
    have hA : cutA (some (⟨g, 0, none⟩ : Addr)) row.length o = some ⟨g, o, none⟩ := by
      unfold cutA
      rw [if_neg (by omega)]
      simp [add_at]
    rw [hA]
    have := run_copy_cells (P := P) w dT sT ty 5 g o dl dc ad m c ((l.take dl).map bv) hu hs (by rw [List.length_map, hlen]) (fun j v hv => by
        rw [List.getElem?_map] at hv
        obtain ⟨x, hx, rfl⟩ := Option.map_eq_some_iff.1 hv
        obtain ⟨hj, rfl⟩ := List.getElem?_eq_some_iff.1 hx
        have hj' : j < l.length := by simp at hj; omega
        obtain ⟨ad', e, hc⟩ := hS.2 j hj'
        injection e with e
        subst e
        rw [hc]
        simp) (fun j hj => by
        rw [List.length_map, hlen] at hj
        rw [hR.cell, List.getElem?_eq_getElem (by omega)]
        rfl) (fun j hj => by
        rw [List.length_map, hlen] at hj
        exact hR.frozen (by omega)) (bv_one _)
    rw [List.length_map, hlen] at this
    exact this

/-- copy(row[o:], s), s a string that fits. -/
theorem run_copy_str {P : Program} {w : World} {g : Nat} {row : List UInt8} (hR : Row w g row) (l : List UInt8) (dT sT ty : TypeId) (hu : P.underlying dT = some (.slice 5)) (hs : (P.info? 5).map (·.size) = some 1)
    (o dl dc : Nat) (hd : o + dl ≤ row.length) (hl : l.length ≤ dl) :
    (Builtin.copy_ #[dT, sT] ty #[.slice (cutA (some ⟨g, 0, none⟩) row.length o) dl dc, .string ⟨l.toArray⟩]).run P w = .ok (.int .i64 (l.length : Int)) (w.setCells g o (l.map bv)) := by
  obtain ⟨i, hi, h1⟩ : ∃ i, P.info? 5 = some i ∧ i.size = 1 := by
    cases hi : P.info? 5 with
    | none => simp [hi] at hs
    | some i => exact ⟨i, rfl, by simpa [hi] using hs⟩
  have hz : ∀ w, (sizeOf 5).run P w = .ok 1 w := fun w => by simp [sizeOf, typeInfo, hi, h1]
  by_cases h0 : l.length = 0
  · obtain rfl : l = [] := List.eq_nil_of_length_eq_zero h0
    have hc : ∀ B : Option Addr, (Builtin.copy_ #[dT, sT] ty #[.slice B dl dc, .string ⟨[].toArray⟩]).run P w = .ok (goInt 0) w := fun B => by
      cases B <;> simp [Builtin.copy_, run_underlying hu, Builtin.lenOf, Builtin.firstCells, hz, storeCells, ByteArray.size]
    rw [hc]
    rfl
  · have hA : cutA (some (⟨g, 0, none⟩ : Addr)) row.length o = some ⟨g, o, none⟩ := by
      unfold cutA
      rw [if_neg (by omega)]
      simp [add_at]
    rw [hA]
    have := run_copy_string (P := P) w dT sT ty 5 g o dl dc ⟨l.toArray⟩ hu hz (by simpa [ByteArray.size] using hl) (fun j hj => by
        have hj' : j < l.length := by simpa [ByteArray.size] using hj
        rw [hR.cell, List.getElem?_eq_getElem (by omega)]
        rfl) (fun j hj => by
        have hj' : j < l.length := by simpa [ByteArray.size] using hj
        exact hR.frozen (by omega))
    simp only [str_size, goInt] at this
    exact this

/-- A buffer whose row was written elsewhere than in its block. -/
theorem Buf.row' {w w' : World} {b g : Nat} {row row' : List UInt8} {len off : Nat} {lr : Int} (h : Buf w b (some g) row len off lr) (hR : Row w' g row') (hf : Fr [g] w w') (hl : row'.length = row.length) : Buf w' b (some g) row' len off lr := by
  obtain ⟨hne, _⟩ := h.some_ g rfl
  refine ⟨?_, h.off_le, by rw [hl]; exact h.len_le, by rw [hl]; exact h.cap_le, by simp, ?_⟩
  · rw [hl]
    exact h.blk.fr hf (by simpa using Ne.symm hne)
  · rintro x ⟨⟩
    exact ⟨hne, hR⟩
/-- Slices that read as a row's whole. -/
theorem Row.sl {w : World} {g : Nat} {l : List UInt8} (h : Row w g l) (n : Nat) (hn : n ≤ l.length) : Sl w (some ⟨g, 0, none⟩) n (l.take n) := by
  refine ⟨by simp; omega, ?_⟩
  have := h.rd 0 n
  simpa using this

theorem setCells_drew (g : Nat) : ∀ (vs : List Value) (o : Nat) (w : World), w.drew.setCells g o vs = (w.setCells g o vs).drew
  | [], o, w => rfl
  | v :: vs, o, w => setCells_drew g vs (o + 1) (w.setCell ⟨g, o, none⟩ v)
theorem setCells_drewN (g : Nat) (n : Nat) : ∀ (vs : List Value) (o : Nat) (w : World), (w.drewN n).setCells g o vs = (w.setCells g o vs).drewN n
  | [], o, w => rfl
  | v :: vs, o, w => setCells_drewN g n vs (o + 1) (w.setCell ⟨g, o, none⟩ v)

theorem Buf.reset {w : World} {b : Nat} {g : Option Nat} {row : List UInt8} {len off : Nat} {lr : Int} (h : Buf w b g row len off lr) :
    Buf (((w.setCell ⟨b, 0, none⟩ (.slice (g.map fun g => ⟨g, 0, none⟩) 0 row.length)).setCell ⟨b, 1, none⟩ (.int .i64 0)).setCell ⟨b, 2, none⟩ (.int .i8 0)) b g row 0 0 0 :=
  ⟨((h.blk.set_ 0 _).set_ 1 _).set_ 2 _, Nat.le_refl _, Nat.zero_le _, h.cap_le, h.none_, fun y e => ⟨(h.some_ y e).1, (((h.some_ y e).2.far (by simpa using Ne.symm (h.some_ y e).1) _).far (by simpa using Ne.symm (h.some_ y e).1) _).far (by simpa using Ne.symm (h.some_ y e).1) _⟩⟩

end Go.Proofs.YtgniidnbpkhmcaaDoor
