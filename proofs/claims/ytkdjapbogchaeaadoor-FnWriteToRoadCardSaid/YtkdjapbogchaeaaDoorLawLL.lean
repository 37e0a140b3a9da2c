/- What a writer takes and what is left are all. -/
import Derived.Test.YtkdjapbogchaeaaDoorLawKK
import Derived.Test.YtkdjapbogchaeaaDoorLawC
import Derived.Test.YtkdjapbogchaeaaDoorDraw4
namespace Go.Proofs.YtkdjapbogchaeaaDoor
open Go.RowKit
set_option linter.unusedVariables false
attribute [local go_sem ↓] Go.wp_at_zero Go.wp_at_succ

theorem DrawWriteTo (A : Option Addr) (n c : Nat) (l : List UInt8) (w : World) (hS : Sl w A n l) (hn : n ≤ 1048576) :
    Calls Tryd.prog 17 #[.slice A n c] w fun e w' => ∃ (s : List UInt8) (z : Nat), e = .returned (.tuple #[.string ⟨s.toArray⟩, .int .u16 (z : Int)]) ∧ s.length ≤ 4096 ∧ z ≤ 65535 ∧ Fr [] w w' := by
  go_enter Tryd.func17, Tryd.ntmps17
  go_wp2_with fail
  refine (rd_long _ w.heap.size A n c l 0 (Dr.made hS hn) (by omega)).mono ?_
  rintro e w1 ⟨s, rfl, hs, hD1, hf1⟩
  go_wp2_with fail
  refine (rd_pick w1 w.heap.size A n c l _ 3 hD1 (by omega) (by omega) (by omega)).mono ?_
  rintro e w2 ⟨x, rfl, hx, hD2, hf2⟩
  have hf := (((Fr.refl [] w).alloc (.cells #[.slice A n c, .int .i64 0] 79)).trans_of hf1 (by simp)).trans_of hf2 (by simp)
  rcases (show (((x : Int) == 0) = true) ∨ (((x : Int) == 0) = false) by simp; omega) with m0 | m0
  · go_wp2_with fail
    go_ret2
    exact ⟨s, s.length, rfl, hs, by omega, hf⟩
  · go_wp2_with fail
    refine (rd_pick w2 w.heap.size A n c l _ (s.length + 3) hD2 (by omega) (by omega) (by omega)).mono ?_
    rintro e w3 ⟨y, rfl, hy, hD3, hf3⟩
    go_wp2_with fail
    refine (rd_pick w3 w.heap.size A n c l _ 2 hD3 (by omega) (by omega) (by omega)).mono ?_
    rintro e w4 ⟨z, rfl, hz, hD4, hf4⟩
    have hwr : IntKind.u16.wrap ((y : Int) + (z : Int) * 60000) = ((y + z * 60000 : Nat) : Int) := by
      rw [IntKind.wrap_u16]
      omega
    go_wp2_with fail
    go_ret2
    exact ⟨s, y + z * 60000, rfl, hs, by omega, (hf.trans_of hf3 (by simp)).trans_of hf4 (by simp)⟩

theorem drop_empty (s : List UInt8) (t : Nat) : (s.drop t != []) = decide (t < s.length) := by
  by_cases h : t < s.length
  · have : s.drop t ≠ [] := by
      intro e
      have := congrArg List.length e
      simp at this
      omega
    simp [h, this]
  · rw [List.drop_eq_nil_of_le (by omega)]
    simp [h]

set_option maxHeartbeats 1600000 in
set_option maxRecDepth 100000 in
theorem FnWriteToRoad_walk (A : Option Addr) (n c : Nat) (l : List UInt8) (w : World) (hS : Sl w A n l) :
    Calls Tryd.prog 4 #[.slice A n c] w fun e w' => e = .returned (.bool true) ∧ Below w.heap.size w w' := by
  go_enter Tryd.func4, Tryd.ntmps4
  go_wp2_with fail
  by_cases hn : n ≤ 1048576
  · refine (large_no A n c w hn).mono ?_
    rintro e w1 ⟨rfl, rfl⟩
    go_wp2_with fail
    refine (DrawWriteTo A n c l w hS hn).mono ?_
    rintro e w1 ⟨s, z, rfl, hs, hz, hf1⟩
    have h2 := Lib.hid (impl_WriteTo s z w1 (by omega) hz)
    go_wp2_with fail
    refine h2.out.mono ?_
    rintro e w2 ⟨m, f, t, r, rfl, H, hf2⟩
    obtain ⟨rfl, rfl, ht, hr⟩ := H.out
    have h3 := Lib.hid fun hW => impl_NextChunks s (some ⟨w2.heap.size, 0, none⟩) 1 1 [z] (w2.alloc (.cells #[.int .u16 (z : Int)] 22)) hW (by simp; omega) (by omega)
    have HT := Lib.hid ht
    have HR := Lib.hid hr
    clear H ht hr
    go_wp2_with fail
    refine (h3.out (slv_new w2 #[.int .u16 (z : Int)] 22)).mono ?_
    rintro e w3 ⟨D, d3, s3, rfl, hD, H3, hf3⟩
    obtain ⟨bd, u, rfl, hu, hcd⟩ := hD.at_ (k := 0) (by omega)
    have hu' : ((chunks s [z] 1).map sv)[0]? = some (.string ⟨t.toArray⟩) := by rw [HT.out]; simp [chunks, chunk, sv, tot]
    rw [hu'] at hu
    simp only [Option.some.injEq] at hu
    subst hu
    have hcd' : w3.cell? bd = some (.string ⟨t.toArray⟩) := by simpa [Addr.add] using hcd
    obtain rfl : r = s3 := by rw [HR.out, H3.out]; simp [tot]
    have htr : t ++ r = s := by rw [HT.out, HR.out]; simp
    have hse : ((t ++ r) == s) = true := by simp [htr]
    have HTR := Lib.hid htr
    have htl : t.length ≤ 4096 := by rw [HT.out]; simp; omega
    have hrl : r.length ≤ 4096 := by rw [HR.out]; simp; omega
    have htz : t.length ≤ z := by rw [HT.out]; simp; omega
    have hfin := Lib.hid (((hf1.trans hf2).trans (((Fr.refl [] w2).alloc (.cells #[.int .u16 (z : Int)] 22)).trans hf3)).below (Nat.le_refl _) (by simp))
    by_cases hzs : z < s.length
    · have hd : decide (z < s.length) = true := by simp; omega
      have hr1 : r ≠ [] := by
        intro e
        have := congrArg List.length HR.out
        rw [e] at this
        simp at this
        omega
      have hr2 : (r != []) = true := by simpa using hr1
      have hr3 : (r == []) = false := by simpa using hr1
      have hr4 : r.isEmpty = false := by simpa using hr1
      clear hu' H3 hcd htr hD
      go_wp2_with fail
      go_ret
      exact ⟨ret_true (by simp), hfin.out⟩
    · have hd : decide (z < s.length) = false := by simp; omega
      obtain rfl : r = [] := by rw [HR.out]; exact List.drop_eq_nil_of_le (by omega)
      have hts : t = s := by have := HTR.out; simpa using this
      clear hu' H3 hcd htr hD hse HTR
      subst hts
      go_wp2_with fail
      go_ret
      exact ⟨ret_true (by simp), hfin.out⟩
  · refine (large_yes A n c w (by omega)).mono ?_
    rintro e w1 ⟨rfl, rfl⟩
    go_wp2_with fail
    go_ret
    exact ⟨rfl, Below.refl _ _⟩

end Go.Proofs.YtkdjapbogchaeaaDoor
