/- append onto a row of bytes of which nothing is frozen. -/
import Derived.Test.YtkdjapbogchaeaaDoorWrite
namespace Go.Proofs.YtkdjapbogchaeaaDoor
open Go.RowKit
set_option linter.unusedVariables false
attribute [local go_sem ↓] Go.wp_at_zero Go.wp_at_succ

theorem bvs_zeros (a : List UInt8) (k : Nat) : (a.map bv).toArray ++ Builtin.zeroCells (Value.int .u8 0).cells k = bvs (a ++ List.replicate k 0) := by
  apply Array.ext'
  simp [bvs, Builtin.zeroCells, Value.cells, bv, Nat.mod_one, List.map_const']

/-- append onto a new row that is empty: a row of the bytes. -/
theorem run_app_new {P : Program} (w : World) (t tx ty : TypeId) (ht : P.underlying t = some (.slice 5)) (hinfo : (P.info? 5).map (fun i => (i.zero, i.size, i.bytes)) = some (some (.int .u8 0), 1, 1))
    (x0 : Nat) (hrow : Row w x0 []) (x : Value) (m : Nat) (news : List UInt8) (hs : Src P 1 tx x m (news.map bv) w) (hb : m ≤ 140737488351232) :
    ∃ (g : Nat) (pad : List UInt8) (w' : World), (Builtin.append_ #[t, tx] ty #[.slice (some ⟨x0, 0, none⟩) 0 0, x]).run P w = .ok (.slice (some ⟨g, 0, none⟩) m (news ++ pad).length) w' ∧ Row w' g (news ++ pad) ∧ Fr [] w w' ∧ (g = x0 ∨ w.heap.size ≤ g) ∧ (news ++ pad).length ≤ 9223372036854775807 := by
  obtain ⟨i, hi, hz, hsz, hby⟩ : ∃ i, P.info? 5 = some i ∧ i.zero = some (.int .u8 0) ∧ i.size = 1 ∧ i.bytes = 1 := by
    cases hi : P.info? 5 with
    | none => simp [hi] at hinfo
    | some i => simp [hi] at hinfo; exact ⟨i, rfl, hinfo.1, hinfo.2.1, hinfo.2.2⟩
  have hnl : news.length = m := by simpa using hs.newsLen
  by_cases h0 : m = 0
  · subst h0
    obtain rfl : news = [] := List.eq_nil_of_length_eq_zero hnl
    have hr := run_append_room_src (P := P) w t tx ty 5 i ht hi x0 0 0 0 x 0 [] (by rw [hsz]; exact hs) (Nat.le_refl _) (fun j hj => by simp at hj) (fun j hj => by simp at hj)
    exact ⟨x0, [], w, by simpa [World.setCells] using hr, hrow, Fr.refl _ _, .inl rfl, by simp⟩
  · have hfit : Builtin.nextslicecap (0 + m) 0 * i.bytes ≤ 281474976710656 := by
      rw [hby, Nat.mul_one]
      exact Nat.le_trans (nextcap_le _ _ (by omega)) (by omega)
    have hold : (Builtin.firstCells i.size 0 (.slice (some ⟨x0, 0, none⟩) 0 0)).run P w.drew = .ok ([] : List Value).toArray w.drew := by
      rw [hsz]
      exact run_firstCells_some (P := P) w.drew 1 0 ⟨x0, 0, none⟩ 0 0 [] (by simp) (fun j u hu => by simp at hu)
    have hr := run_append_grow_src (P := P) w t tx ty 5 i (.int .u8 0) ht hi hz (some ⟨x0, 0, none⟩) 0 0 [] hold x m (news.map bv) (by rw [hsz]; exact hs) (by omega) (by omega) hfit
    have hge := grownCap_ge w (0 + m) 0 5
    have hcm : grownCap w (0 + m) 0 5 ≤ maxLen := grownCap_le_maxLen w (0 + m) 0 5 (by unfold maxLen; omega)
    unfold maxLen at hcm
    generalize grownCap w (0 + m) 0 5 = c at *
    rw [List.nil_append, bvs_zeros] at hr
    simp only [Nat.zero_add] at hr hge
    have hl : (news ++ List.replicate (c - m) (0 : UInt8)).length = c := by simp; omega
    exact ⟨w.heap.size, List.replicate (c - m) 0, _, by rw [hl]; exact hr, ⟨0, 0, heap_alloc_new w.drew _, .inl (Nat.le_refl _)⟩, ((Fr.refl _ w).drew).alloc _, .inr (Nat.le_refl _), by omega⟩

end Go.Proofs.YtkdjapbogchaeaaDoor
