/- Writing by the slice of unused bytes is writing; strings, slices and single bytes are written alike. -/
import Derived.Test.YtjppokaeepapmaaDoorLawCC
import Derived.Test.YtjppokaeepapmaaDoorDraw4
namespace Go.Proofs.YtjppokaeepapmaaDoor
open Go.RowKit
set_option linter.unusedVariables false
attribute [local go_sem ↓] Go.wp_at_zero Go.wp_at_succ

theorem Row.sl_head {w : World} {g : Nat} {l pad : List UInt8} (h : Row w g (l ++ pad)) : Sl w (some ⟨g, 0, none⟩) l.length l := by
  have := h.rd 0 l.length
  exact ⟨rfl, by simpa using this⟩

theorem sls_one (w : World) (B : Option Addr) (m d : Nat) (x : List UInt8) (e : TypeId) (h : Sl w B m x) : Sls (w.alloc (.cells #[.slice B m d] e)) (some ⟨w.heap.size, 0, none⟩) 1 [x] := by
  refine ⟨[.slice B m d], slv_fresh w #[.slice B m d] e, rfl, ?_⟩
  intro k u l hu hl
  have hk : k = 0 := by have := (List.getElem?_eq_some_iff.1 hu).1; simp at this; omega
  subst hk
  simp at hu hl
  subst hu hl
  exact ⟨B, m, d, rfl, h.fr_old' ((Fr.refl [] w).alloc _)⟩

set_option maxHeartbeats 1600000 in
set_option maxRecDepth 100000 in
theorem FnWriteRoads_walk (A : Option Addr) (n c : Nat) (l : List UInt8) (w : World) (hS : Sl w A n l) :
    Calls Tryd.prog 8 #[.slice A n c] w fun e w' => e = .returned (.bool true) ∧ Below w.heap.size w w' := by
  go_enter Tryd.func8, Tryd.ntmps8
  go_wp2_with fail
  by_cases hn : n ≤ 1048576
  · refine (large_no A n c w hn).mono ?_
    rintro e w1 ⟨rfl, rfl⟩
    go_wp2_with fail
    refine (DrawWriteStrings A n c l w hS hn).mono ?_
    rintro e w1 ⟨s, B, m, d, ls, rfl, hs, hm, hB, hz, hmd, hf1⟩
    have hsum : (ls.map List.length).sum ≤ 20480 := by
      have h1 := sum_le ls hz
      have h2 : m = ls.length := by have := hB.1; simpa using this
      omega
    have hfl : ls.flatten.length ≤ 20480 := by rw [List.length_flatten]; exact hsum
    have h2 := Lib.hid (impl_WriteStrings s B m d ls w1 hB (by omega))
    go_wp2_with fail
    refine h2.out.mono ?_
    rintro e w2 ⟨A2, c2, t2, rfl, hS2, H2, hf2⟩
    have hB2 := hB.fr_old hf2 (by simp)
    obtain ⟨pad, cx, w3, hcv, HCX, hR3, hf3⟩ := run_bytes_row w2 s (by omega)
    have h4 := Lib.hid (laws_slices B m d ls w3 (hB2.fr_old hf3 (by simp)) (by omega) (fun x hx => by have := hz x hx; omega))
    go_wp2_with fail
    refine h4.out.mono ?_
    rintro e w4 ⟨A4, c4, rfl, hS4, hf4⟩
    have h5 := Lib.hid (impl_WriteSlices (some ⟨w2.heap.size, 0, none⟩) s.length cx s A4 m c4 ls w4 (hR3.sl_head.fr_old' hf4) hS4 (by omega))
    clear hR3 hS4
    go_wp2_with fail
    refine h5.out.mono ?_
    rintro e w5 ⟨A5, c5, t5, rfl, hS5, H5, hf5⟩
    obtain rfl : t2 = t5 := by rw [H2.out, H5.out]
    have hf25 := (hf3.trans hf4).trans hf5
    have hB5 := hB2.fr_old hf25 (by simp)
    have h6 := Lib.hid (spec_Joined B m d ls w5 hB5 (by omega) (by omega))
    clear H5
    go_wp2_with fail
    refine h6.out.mono ?_
    rintro e w6 ⟨j, rfl, HJ, rfl⟩
    have hjl : j.length ≤ 20480 := by rw [HJ.out]; exact hfl
    have hsj : (s ++ j).length ≤ 30000 := by simp; omega
    obtain ⟨pad7, cx7, w7, hcv7, HCX7, hR7, hf7⟩ := run_bytes_row w5 (s ++ j) (by omega)
    have h80 := impl_WriteSingles (some ⟨w5.heap.size, 0, none⟩) (s ++ j).length cx7 (s ++ j) w7 hR7.sl_head (by omega)
    simp only [List.length_append] at h80
    have h8 := Lib.hid h80
    clear h80
    clear hR7
    go_wp2_with fail
    refine h8.out.mono ?_
    rintro e w8 ⟨t8, rfl, H8, hf8⟩
    obtain rfl : t2 = t8 := by rw [H2.out, H8.out, HJ.out]
    have hf58 := hf7.trans hf8
    have hA2 := hS2.fr_old (hf25.trans hf58) (by simp)
    have hA5 := hS5.fr_old hf58 (by simp)
    have h9 := Lib.hid (sameNumbers_true A2 A5 m c2 c5 _ w8 hA2 hA5 (by omega))
    clear H8 hS2 hS5 hA2 hA5
    go_wp2_with fail
    refine h9.out.mono ?_
    rintro e w9 ⟨rfl, hf9⟩
    go_wp2_with fail
    go_ret
    exact ⟨ret_true (by simp), ((((hf1.trans hf2).trans hf25).trans hf58).trans hf9).below (Nat.le_refl _) (by simp)⟩
  · refine (large_yes A n c w (by omega)).mono ?_
    rintro e w1 ⟨rfl, rfl⟩
    go_wp2_with fail
    go_ret
    exact ⟨rfl, Below.refl _ _⟩

end Go.Proofs.YtjppokaeepapmaaDoor
