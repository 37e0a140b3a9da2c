/- A slice of calls that came in, in the walks' words. -/
import Derived.Test.YtgjaeggpaomoaaaDoorArgs
import Derived.Test.YtgjaeggpaomoaaaDoorScr
import Derived.Test.YtgjaeggpaomoaaaDoorRun
import Derived.Test.YtgjaeggpaomoaaaDoorRg
import Derived.ChangeArms
import Derived.ChangeSlices
namespace Go.Proofs.YtgjaeggpaomoaaaDoor
open Go.RowKit Go.WideShapes Go.ChangeShapes
set_option linter.unusedVariables false

/-- The call that a datum is. -/
def opOf {H : Type} (d : DataW H) : OpV := match d with
  | .agg [.lit (.string k), .lit (.string t), .lit (.int _ z), .lit (.int _ n), .lit (.int _ c)] => ⟨k, t, z.toNat, n, c⟩
  | _ => ⟨[], [], 0, 0, 0⟩
theorem bulk_ops {H : Type} (ds : List (DataW H)) (h : ∀ d ∈ ds, (opOf d).text.length + 5 ≤ Rows.uptoBulk d) : tsum (ds.map opOf) + ds.length ≤ Rows.uptoBulkAll ds := by
  induction ds with
  | nil => simp [Rows.uptoBulkAll, tsum]
  | cons d r ih =>
    have h1 := h d (by simp)
    have h2 := ih (fun x hx => h x (by simp [hx]))
    have e : tsum ((d :: r).map opOf) = (opOf d).text.length + 4 + tsum (r.map opOf) := by simp [tsum]
    rw [e]
    simp only [List.length_cons, Rows.uptoBulkAll]
    omega

theorem list5 {α : Type} {l : List α} (h : l.length = 5) : ∃ a b c d e, l = [a, b, c, d, e] := by
  match l, h with
  | [a, b, c, d, e], _ => exact ⟨a, b, c, d, e, rfl⟩
theorem open_ops {H : Type} {enc : TypeId × Value → H} {w : World} {base : Nat} {held : Bool} {fuel : Nat} {a0 : Option Addr} {len0 cap0 : Nat} {x : DataW H × List MemPlace} (hc : Tryd.prog.cellsOf 59 = 5) (hc9 : Tryd.prog.cellsOf 9 = 1) (hc27 : Tryd.prog.cellsOf 27 = 1) (hc3 : Tryd.prog.cellsOf 3 = 1) (hc21 : Tryd.prog.cellsOf 21 = 1)
    (h : DataW.trod enc Tryd.prog w base (fun _ => true) held fuel 24 [.slice a0 len0 cap0] = some x) : ∃ os : List OpV, (Rg w a0 len0 5 (os.flatMap OpV.cells) ∧ len0 = os.length ∧ ∀ o ∈ os, o.Ok) ∧ (tsum os + len0) + 1 ≤ Rows.uptoBulk x.1 := by
  rcases DataW.trod_slice Tryd.underlying24 h with ⟨hcs, rfl⟩ | ⟨a, len, cap, elems, rest, n, _, hcs, rfl, hb, hl, hm, hlen, hel, hsp, hns⟩
  · simp at hcs
    obtain ⟨rfl, rfl, rfl⟩ := hcs
    exact ⟨[], ⟨⟨rfl, fun h0 => by omega⟩, rfl, by simp⟩, by simp [Rows.uptoBulk, tsum]⟩
  · simp at hcs
    obtain ⟨rfl, rfl, rfl⟩ := hcs
    have each : ∀ i y, elems[i]? = some y → (∀ j, j < 5 → w.cell? (a.add (i * 5 + j)) = (opOf y.1).cells[j]?) ∧ (opOf y.1).Ok ∧ (opOf y.1).text.length + 5 ≤ Rows.uptoBulk y.1 := by
      intro i y hy
      have hi : i < len0 := by have := (List.getElem?_eq_some_iff.1 hy).1; omega
      have hb' := hel i hi
      rw [hy, hc, Option.bind_eq_some_iff] at hb'
      obtain ⟨cs', hcs, hy'⟩ := hb'
      obtain ⟨_, hcl, hcell⟩ := World.cells?_some hcs
      obtain ⟨xs, m, _, rfl, _, hxl, hf⟩ := DataW.trod_struct Tryd.underlying59 hy'
      have hxl5 : xs.length = 5 := hxl
      obtain ⟨y0, y1, y2, y3, y4, rfl⟩ := list5 hxl5
      obtain ⟨v0, v1, v2, v3, v4, rfl⟩ := list5 hcl
      have h0 : DataW.trod enc Tryd.prog w base (fun _ => true) held m 9 (([v0, v1, v2, v3, v4].drop 0).take (Tryd.prog.cellsOf 9)) = some y0 := hf 0 _ rfl
      have h1 : DataW.trod enc Tryd.prog w base (fun _ => true) held m 9 (([v0, v1, v2, v3, v4].drop 1).take (Tryd.prog.cellsOf 9)) = some y1 := hf 1 _ rfl
      have h2 : DataW.trod enc Tryd.prog w base (fun _ => true) held m 27 (([v0, v1, v2, v3, v4].drop 2).take (Tryd.prog.cellsOf 27)) = some y2 := hf 2 _ rfl
      have h3 : DataW.trod enc Tryd.prog w base (fun _ => true) held m 3 (([v0, v1, v2, v3, v4].drop 3).take (Tryd.prog.cellsOf 3)) = some y3 := hf 3 _ rfl
      have h4 : DataW.trod enc Tryd.prog w base (fun _ => true) held m 21 (([v0, v1, v2, v3, v4].drop 4).take (Tryd.prog.cellsOf 21)) = some y4 := hf 4 _ rfl
      simp only [hc9, hc27, hc3, hc21, List.drop_zero, List.drop_succ_cons, List.take_succ_cons, List.take_zero] at h0 h1 h2 h3 h4
      obtain ⟨k, e0, rfl, w0⟩ := DataW.trod_string Tryd.underlying9 h0
      obtain ⟨t, e1, rfl, w1⟩ := DataW.trod_string Tryd.underlying9 h1
      obtain ⟨z, e2, rfl, w2⟩ := DataW.trod_int Tryd.underlying27 h2
      obtain ⟨nn, e3, rfl, w3⟩ := DataW.trod_int Tryd.underlying3 h3
      obtain ⟨c, e4, rfl, w4⟩ := DataW.trod_int Tryd.underlying21 h4
      simp only [List.cons.injEq, and_true] at e0 e1 e2 e3 e4
      subst e0 e1 e2 e3 e4
      simp [Lit.wf, IntKind.min, IntKind.max, IntKind.signed, IntKind.bits] at w2 w3 w4
      have ho : opOf (.agg ([((DataW.lit (.string k.data.toList) : DataW H), ([] : List MemPlace)), (.lit (.string t.data.toList), []), (.lit (.int .u16 z), []), (.lit (.int .i64 nn), []), (.lit (.int .i32 c), [])].map (·.1))) = ⟨k.data.toList, t.data.toList, z.toNat, nn, c⟩ := rfl
      refine ⟨fun j hj => ?_, ?_, ?_⟩
      · rw [ho, ← add_add, hcell j hj]
        unfold OpV.cells
        rw [str_eq, str_eq, Int.toNat_of_nonneg w2.1]
      · rw [ho]
        exact ⟨by show z.toNat ≤ _; omega, by show _ ≤ nn; omega, by show nn ≤ _; omega, by show _ ≤ c; omega, by show c ≤ _; omega⟩
      · rw [ho]
        simp only [Rows.uptoBulk, Rows.uptoBulkAll, List.map_cons, List.map_nil]
        omega
    refine ⟨elems.map fun y => opOf y.1, ⟨⟨?_, fun h0 => ⟨a, rfl, fun j hj => ?_⟩⟩, by simp [hlen], fun o ho => ?_⟩, ?_⟩
    · rw [recs_length OpV.cells 5 (fun _ => rfl), List.length_map, hlen]
    · have hj5 : j / 5 < elems.length := by
        rw [recs_length OpV.cells 5 (fun _ => rfl), List.length_map] at hj
        omega
      obtain ⟨h1, _⟩ := each (j / 5) _ (List.getElem?_eq_getElem hj5)
      have h2 := h1 (j % 5) (by omega)
      rw [show j / 5 * 5 + j % 5 = j by omega] at h2
      have h3 := recs_get OpV.cells 5 (fun _ => rfl) (elems.map fun y => opOf y.1) (j / 5) (j % 5) (opOf elems[j / 5].1) (by rw [List.getElem?_map, List.getElem?_eq_getElem hj5]; rfl) (by omega)
      rw [show j / 5 * 5 + j % 5 = j by omega, List.getElem?_eq_getElem hj] at h3
      rw [h2, ← h3]
    · obtain ⟨y, hy, rfl⟩ := List.mem_map.1 ho
      obtain ⟨i, hi⟩ := List.getElem?_of_mem hy
      exact (each i y hi).2.1
    · have h1 := bulk_ops (elems.map (·.1)) (fun d hd => by
        obtain ⟨y, hy, rfl⟩ := List.mem_map.1 hd
        obtain ⟨i, hi⟩ := List.getElem?_of_mem hy
        exact (each i y hi).2.2)
      have h2 := bulk_slice (elems.map (·.1)) (rest.map (·.1))
      simp only [List.map_map, List.length_map] at h1 ⊢
      rw [hlen] at h1
      simp only [Function.comp_def] at h1 ⊢
      omega

end Go.Proofs.YtgjaeggpaomoaaaDoor
