/- A slice of slices of bytes that came in, in the walks' words. -/
import Derived.Test.YtgniidnbpkhmcaaArgs
import Derived.Test.YtgniidnbpkhmcaaNums
import Derived.ChangeArms
import Derived.ChangeSlices
namespace Go.Proofs.Ytgniidnbpkhmcaa
open Go.RowKit Go.WideShapes Go.ChangeShapes
set_option linter.unusedVariables false

theorem sl_of_ints' {W : World} {x : Addr} {len : Nat} {zs : List Int} (hl : len ≤ zs.length) (hcell : ∀ i, i < zs.length → W.cell? (x.add i) = some (.int .u8 (zs.getD i 0))) (hwz : ∀ n ∈ zs, (Lit.int .u8 n).wf = true) :
    Sl W (some x) len ((zs.take len).map fun z => UInt8.ofNat z.toNat) := sl_of_ints hl rfl hcell hwz

/-- The bytes of a datum that is a slice of them. -/
def textOf {H : Type} (d : DataW H) : List UInt8 := match d with
  | .slice es _ => es.map fun d => match d with
    | .lit (.int _ z) => UInt8.ofNat z.toNat
    | _ => 0
  | _ => []
theorem textOf_lits {H : Type} (zs : List Int) (r : List (DataW H)) : textOf (.slice (lits .u8 zs) r) = zs.map fun z => UInt8.ofNat z.toNat := by
  simp [textOf, lits]

theorem bulk_texts {H : Type} (ds : List (DataW H)) (h : ∀ d ∈ ds, (textOf d).length + 1 ≤ Rows.uptoBulk d) : ((ds.map textOf).map List.length).sum + ds.length ≤ Rows.uptoBulkAll ds := by
  induction ds with
  | nil => simp [Rows.uptoBulkAll]
  | cons d r ih =>
    have h1 := h d (by simp)
    have h2 := ih (fun x hx => h x (by simp [hx]))
    simp only [List.map_cons, List.sum_cons, List.length_cons, Rows.uptoBulkAll]
    omega

theorem open_bytess {H : Type} {enc : TypeId × Value → H} {P : Program} {w : World} {base : Nat} {held : Bool} {t e : TypeId} {fuel : Nat} {a0 : Option Addr} {len0 cap0 : Nat} {x : DataW H × List MemPlace} (ht : P.underlying t = some (.slice e)) (he : P.underlying e = some (.slice 5)) (he5 : P.underlying 5 = some (.int .u8)) (hc : P.cellsOf e = 1) (hc5 : P.cellsOf 5 = 1)
    (h : DataW.trod enc P w base (fun _ => true) held fuel t [.slice a0 len0 cap0] = some x) : ∃ ls, Sls w a0 len0 ls ∧ ((ls.map List.length).sum + len0) + 1 ≤ Rows.uptoBulk x.1 := by
  rcases DataW.trod_slice ht h with ⟨hcs, rfl⟩ | ⟨a, len, cap, elems, rest, n, _, hcs, rfl, hb, hl, hm, hlen, hel, hsp, hns⟩
  · simp at hcs
    obtain ⟨rfl, rfl, rfl⟩ := hcs
    exact ⟨[], ⟨[], ⟨rfl, fun j hj => absurd hj (by simp)⟩, rfl, by simp⟩, by simp [Rows.uptoBulk]⟩
  · simp at hcs
    obtain ⟨rfl, rfl, rfl⟩ := hcs
    have each : ∀ i y, elems[i]? = some y → ∃ B m c, w.cell? (a.add i) = some (.slice B m c) ∧ Sl w B m (textOf y.1) ∧ (textOf y.1).length + 1 ≤ Rows.uptoBulk y.1 := by
      intro i y hy
      have hi : i < len0 := by have := (List.getElem?_eq_some_iff.1 hy).1; omega
      have hb' := hel i hi
      rw [hy, hc, Nat.mul_one, Option.bind_eq_some_iff] at hb'
      obtain ⟨cs', hcs, hy'⟩ := hb'
      rcases open_ints he he5 hc5 hy' with ⟨rfl, rfl⟩ | ⟨x', l', c', zs, rfl, _, hl', _, hz', rfl, hcell, hwz⟩
      · exact ⟨none, 0, 0, cell_of_cells?_one hcs, ⟨rfl, Rd.nil _ _⟩, by simp [textOf, Rows.uptoBulk]⟩
      · have hz2 : zs.length = c' := by simpa using hz'
        refine ⟨some x', l', c', cell_of_cells?_one hcs, ?_, ?_⟩
        · rw [textOf_lits]
          exact sl_of_ints' (by omega) hcell hwz
        · rw [textOf_lits]
          have := bulk_slice_length (H := H) (lits .u8 (zs.take l')) (lits .u8 (zs.drop l'))
          simp only [lits, List.length_map] at this ⊢
          exact this
    refine ⟨elems.map fun y => textOf y.1, ⟨(List.range len0).map fun i => (w.cell? (a.add i)).getD (.bool false), ⟨by simp, ?_⟩, by simp [hlen], ?_⟩, ?_⟩
    · intro j hj
      have hj' : j < len0 := by simpa using hj
      obtain ⟨B, m, c, h1, _⟩ := each j _ (List.getElem?_eq_getElem (by omega))
      exact ⟨a, rfl, by simp [h1]⟩
    · intro k u l hu hl'
      have hk : k < len0 := by have := (List.getElem?_eq_some_iff.1 hu).1; simpa using this
      obtain ⟨B, m, c, h1, h2, _⟩ := each k _ (List.getElem?_eq_getElem (by omega))
      rw [List.getElem?_map, List.getElem?_eq_getElem (by omega)] at hl'
      simp only [Option.map_some, Option.some.injEq] at hl'
      subst hl'
      rw [List.getElem?_map, List.getElem?_range hk] at hu
      simp [h1] at hu
      exact ⟨B, m, c, hu.symm, h2⟩
    · have h1 := bulk_texts (elems.map (·.1)) (fun d hd => by
        obtain ⟨y, hy, rfl⟩ := List.mem_map.1 hd
        obtain ⟨i, hi⟩ := List.getElem?_of_mem hy
        obtain ⟨B, m, c, _, _, h3⟩ := each i y hi
        exact h3)
      have h2 := bulk_slice (elems.map (·.1)) (rest.map (·.1))
      simp only [List.map_map, List.length_map] at h1 ⊢
      have e1 : ((textOf ∘ fun (x : DataW H × List MemPlace) => x.1) : DataW H × List MemPlace → List UInt8) = fun y => textOf y.1 := rfl
      rw [hlen] at h1
      simp only [Function.comp_def] at h1 ⊢
      omega

end Go.Proofs.Ytgniidnbpkhmcaa
