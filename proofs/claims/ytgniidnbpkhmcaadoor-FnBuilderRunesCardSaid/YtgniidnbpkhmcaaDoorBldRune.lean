/- A builder written with code points. -/
import Derived.Test.YtgniidnbpkhmcaaDoorRune
import Derived.Test.YtgniidnbpkhmcaaDoorLawR
namespace Go.Proofs.YtgniidnbpkhmcaaDoor
open Go.RowKit
set_option linter.unusedVariables false
attribute [local go_sem ↓] Go.wp_at_zero Go.wp_at_succ

theorem rune_bv (r : Int) : Lib.runeCells r = (Lib.encodeRune r).map bv := (Lib.byteCells_encodeRune r).symm
theorem rune_len (r : Int) : 1 ≤ (Lib.encodeRune r).length ∧ (Lib.encodeRune r).length ≤ 4 := by
  have := Lib.runeCells_le r
  rw [Lib.runeCells_length] at this
  exact this

set_option maxHeartbeats 1600000 in
theorem Builder_WriteRune {b : Nat} {g : Option Nat} {row : List UInt8} {len : Nat} (w : World) (h : Bld w b g row len) (r : Int) (hr0 : -2147483648 ≤ r) (hr1 : r ≤ 2147483647) (hl : len + 4 ≤ 140737488351232) :
    Calls Tryd.prog 42 #[.pointer (some ⟨b, 0, none⟩), .int .i32 r] w fun e w' => ∃ (g' : Option Nat) (row' : List UInt8) (len' k : Nat), e = .returned (.tuple #[.int .i64 (k : Int), .nilIface]) ∧ Hid (k = (Lib.encodeRune r).length) ∧ Wrote w w' b g row len (Lib.encodeRune r) g' row' len' := by
  have hg : ∀ x, g = some x → x < w.heap.size := fun x e => by obtain ⟨p, _, h⟩ := h; exact (h.some_ x e).2.lt
  have HC := Lib.hid (Builder_copyCheck w h)
  have hrl := rune_len r
  clear h
  go_enter Tryd.func42, Tryd.ntmps42
  go_wp2_with fail
  refine HC.out.mono ?_
  rintro e w1 ⟨rfl, hB, hf⟩
  have hB2 := hB.alloc (.cells (Lib.runeCells r).toArray 5)
  have hsrc : Src Tryd.prog 1 22 (.slice (some ⟨w1.heap.size, 0, none⟩) (Lib.runeCells r).length (Lib.runeCells r).length) (Lib.runeCells r).length ((Lib.encodeRune r).map bv) (w1.alloc (.cells (Lib.runeCells r).toArray 5)) := by
    rw [← rune_bv]
    refine Src.ofSlice _ Tryd.underlying22 _ _ _ _ (by simp) (World.news_of_block (cs := (Lib.runeCells r).toArray) (heap_alloc_new w1 _)) ?_
    intro u hu
    rw [rune_bv] at hu
    exact bv_one _ u hu
  obtain ⟨g', row', w2, hrun, ha⟩ := run_app_f (P := Tryd.prog) (w1.alloc (.cells (Lib.runeCells r).toArray 5)) 22 22 22 Tryd.underlying22 info5b g row len hB2.len_le hB2.cap_le hB2.none_ (fun x e => (hB2.some_ x e).2) _ (Lib.runeCells r).length (Lib.encodeRune r) hsrc (by rw [Lib.runeCells_length]; omega)
  have har := Lib.hid (utf8_AppendRune w1 _ _ _ r _ _ _ w2 hr0 hr1 hrun)
  obtain ⟨d1, f1⟩ := ha.blk hB2
  have c1 := hB.c1
  rw [hB2.c1] at d1
  have HW := Lib.hid (Wrote.of hB2 (hf.alloc _) (by simp) hg ha (by rw [Lib.runeCells_length]))
  have hkl : (Lib.runeCells r).length = (Lib.encodeRune r).length := Lib.runeCells_length r
  generalize (Lib.runeCells r).length = k at *
  have HK := Lib.hid hkl
  have hk4 : k ≤ 4 := by omega
  clear hkl hrun hsrc hB hB2 ha
  go_wp2_with fail
  refine har.out.mono ?_
  rintro e w3 ⟨rfl, rfl⟩
  go_wp2_with fail
  go_ret2
  exact ⟨_, _, _, k, by simp; omega, HK, HW.out⟩

end Go.Proofs.YtgniidnbpkhmcaaDoor
