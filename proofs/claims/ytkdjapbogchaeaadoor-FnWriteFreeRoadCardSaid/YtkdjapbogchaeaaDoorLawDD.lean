/- Writing by the slice of unused bytes is writing; strings, slices and single bytes are written alike. -/
import Derived.Test.YtkdjapbogchaeaaDoorLawCC
import Derived.Test.YtkdjapbogchaeaaDoorDraw4
namespace Go.Proofs.YtkdjapbogchaeaaDoor
open Go.RowKit
set_option linter.unusedVariables false
attribute [local go_sem ↓] Go.wp_at_zero Go.wp_at_succ

theorem Row.sl_head {w : World} {g : Nat} {l pad : List UInt8} (h : Row w g (l ++ pad)) : Sl w (some ⟨g, 0, none⟩) l.length l := by
  have := h.rd 0 l.length
  exact ⟨rfl, by simpa using this⟩

theorem DrawWriteFree (A : Option Addr) (n c : Nat) (l : List UInt8) (w : World) (hS : Sl w A n l) (hn : n ≤ 1048576) :
    Calls Tryd.prog 30 #[.slice A n c] w fun e w' => ∃ (s : List UInt8) (B : Option Addr) (m d : Nat) (x : List UInt8), e = .returned (.tuple #[.string ⟨s.toArray⟩, .slice B m d]) ∧ s.length ≤ 4096 ∧ x.length ≤ 4096 ∧ Sl w' B m x ∧ Fr [] w w' := by
  go_enter Tryd.func30, Tryd.ntmps30
  go_wp2_with fail
  refine (rd_long _ w.heap.size A n c l 0 (Dr.made hS hn) (by omega)).mono ?_
  rintro e w1 ⟨s, rfl, hs, hD1, hf1⟩
  go_wp2_with fail
  refine (rd_long w1 w.heap.size A n c l _ hD1 (by omega)).mono ?_
  rintro e w2 ⟨x, rfl, hx, hD2, hf2⟩
  obtain ⟨pad, cx, w3, hcv, HCX, hR3, hf3⟩ := run_bytes_row w2 x (by omega)
  have HR := Lib.hid hR3
  clear hR3
  go_wp2_with fail
  go_ret2
  exact ⟨s, _, _, _, x, rfl, hs, hx, HR.out.sl_head, ((((Fr.refl [] w).alloc _).trans_of hf1 (by simp)).trans_of hf2 (by simp)).trans hf3⟩

theorem sls_one (w : World) (B : Option Addr) (m d : Nat) (x : List UInt8) (e : TypeId) (h : Sl w B m x) : Sls (w.alloc (.cells #[.slice B m d] e)) (some ⟨w.heap.size, 0, none⟩) 1 [x] := by
  refine ⟨[.slice B m d], slv_fresh w #[.slice B m d] e, rfl, ?_⟩
  intro k u l hu hl
  have hk : k = 0 := by have := (List.getElem?_eq_some_iff.1 hu).1; simp at this; omega
  subst hk
  simp at hu hl
  subst hu hl
  exact ⟨B, m, d, rfl, h.fr_old' ((Fr.refl [] w).alloc _)⟩

set_option maxHeartbeats 1600000 in
set_option maxRecDepth 100000 in
theorem FnWriteFreeRoad_walk (A : Option Addr) (n c : Nat) (l : List UInt8) (w : World) (hS : Sl w A n l) :
    Calls Tryd.prog 12 #[.slice A n c] w fun e w' => e = .returned (.bool true) ∧ Below w.heap.size w w' := by
  go_enter Tryd.func12, Tryd.ntmps12
  go_wp2_with fail
  by_cases hn : n ≤ 1048576
  · refine (large_no A n c w hn).mono ?_
    rintro e w1 ⟨rfl, rfl⟩
    go_wp2_with fail
    refine (DrawWriteFree A n c l w hS hn).mono ?_
    rintro e w1 ⟨s, B, m, d, x, rfl, hs, hx, hB, hf1⟩
    have hml := hB.1
    obtain ⟨pad, cx, w2, hcv, HCX, hR2, hf2⟩ := run_bytes_row w1 s (by omega)
    have hB2 := hB.fr_old' hf2
    have h3 := Lib.hid (impl_WriteSlices (some ⟨w1.heap.size, 0, none⟩) s.length cx s (some ⟨w2.heap.size, 0, none⟩) 1 1 [x] (w2.alloc (.cells #[.slice B m d] 26)) (hR2.sl_head.fr_old' ((Fr.refl [] w2).alloc _)) (sls_one w2 B m d x 26 hB2) (by simp; omega))
    have HB2 := Lib.hid hB2
    have HML := Lib.hid hml
    clear hB hB2 hR2 hml
    go_wp2_with fail
    refine h3.out.mono ?_
    rintro e w3 ⟨A3, c3, t3, rfl, hS3, H3, hf3⟩
    have hf23 := ((Fr.refl [] w2).alloc (.cells #[.slice B m d] 26)).trans hf3
    have hB3 := HB2.out.fr_old' hf23
    have h4 := Lib.hid (impl_WriteFree s B m d x w3 hB3 (by have := HML.out; omega))
    clear hS3
    go_wp2_with fail
    refine h4.out.mono ?_
    rintro e w4 ⟨t4, rfl, H4, hf4⟩
    obtain rfl : t3 = t4 := by rw [H3.out, H4.out]; simp
    have hB4 := hB3.fr_old' hf4
    have hst := run_string_sl (P := Tryd.prog) hB4 26 9 5 d Tryd.underlying26 Tryd.underlying5 Tryd.underlying9
    clear hB3 hB4 H3
    go_wp2_with fail
    go_ret
    exact ⟨ret_true (by rw [H4.out]; simp), (((hf1.trans hf2).trans hf23).trans hf4).below (Nat.le_refl _) (by simp)⟩
  · refine (large_yes A n c w (by omega)).mono ?_
    rintro e w1 ⟨rfl, rfl⟩
    go_wp2_with fail
    go_ret
    exact ⟨rfl, Below.refl _ _⟩

end Go.Proofs.YtkdjapbogchaeaaDoor
