/- Laws on growing. -/
import Derived.Test.YtkdjapbogchaeaaDoorLawFF
import Derived.Test.YtkdjapbogchaeaaDoorDraw4
namespace Go.Proofs.YtkdjapbogchaeaaDoor
open Go.RowKit
set_option linter.unusedVariables false
attribute [local go_sem ↓] Go.wp_at_zero Go.wp_at_succ

theorem ints_any (w : World) (r : Nat) (cs : Array Value) (P : Int → Prop) (h : ∀ y (hy : y < cs.size), ∃ a, cs[y] = .int .i64 a ∧ P a) (hr : r < w.heap.size) :
    ∀ (W : World) (y : Nat), Fr [r] (w.alloc (.cells cs 3)).drew W → y < cs.size → ∃ a : Int, W.cell? ⟨w.heap.size, y, none⟩ = some (.int .i64 a) ∧ P a := by
  intro W y hf hy
  have hk := (Blk.drew (Blk.new w 3 cs)).fr hf (by simp; omega)
  have hc := hk.cell y
  obtain ⟨a, ha, hP⟩ := h y hy
  rw [Array.getElem?_eq_getElem hy, ha] at hc
  exact ⟨a, hc, hP⟩

def okGrow (a : Int) : Prop := (-9223372036854775808 ≤ a ∧ a < 0) ∨ (0 ≤ a ∧ a ≤ 65535)
theorem seven : ∀ y (hy : y < (#[.int .i64 (-1), .int .i64 (-9223372036854775808), .int .i64 0, .int .i64 64, .int .i64 65, .int .i64 512, .int .i64 4096] : Array Value).size), ∃ a, (#[.int .i64 (-1), .int .i64 (-9223372036854775808), .int .i64 0, .int .i64 64, .int .i64 65, .int .i64 512, .int .i64 4096] : Array Value)[y] = .int .i64 a ∧ okGrow a := by
  intro y hy
  rcases (show y = 0 ∨ y = 1 ∨ y = 2 ∨ y = 3 ∨ y = 4 ∨ y = 5 ∨ y = 6 by simp at hy; omega) with rfl | rfl | rfl | rfl | rfl | rfl | rfl
  · exact ⟨_, rfl, .inl (by omega)⟩
  · exact ⟨_, rfl, .inl (by omega)⟩
  · exact ⟨_, rfl, .inr (by omega)⟩
  · exact ⟨_, rfl, .inr (by omega)⟩
  · exact ⟨_, rfl, .inr (by omega)⟩
  · exact ⟨_, rfl, .inr (by omega)⟩
  · exact ⟨_, rfl, .inr (by omega)⟩

set_option maxRecDepth 100000 in
set_option maxHeartbeats 1600000 in
theorem FnExactGrow_walk (l : List UInt8) (a : Int) (w : World) (hl : l.length ≤ 9223372036854775807) (ha : -9223372036854775808 ≤ a ∧ a ≤ 9223372036854775807) (hN : l.length ≤ 1048576) :
    Calls Tryd.prog 14 #[.string ⟨l.toArray⟩, .int .i64 a] w fun e w' => e = .returned (.bool true) ∧ Below w.heap.size w w' := by
  obtain ⟨ha1, ha2⟩ := ha
  by_cases hbig : 1048576 < a
  · go_enter Tryd.func14, Tryd.ntmps14
    go_wp2_with fail
    go_ret
    exact ⟨rfl, Below.refl _ _⟩
  · by_cases h0 : a < 0
    · have hb : ¬ 1048576 < a := hbig
      go_enter Tryd.func14, Tryd.ntmps14
      go_wp2_with fail
      refine (impl_Grow_bad l a w (by omega) h0).mono ?_
      rintro e w1 ⟨rfl, hf⟩
      go_wp2_with fail
      go_ret
      exact ⟨rfl, ((hf.alloc _).alloc _).below (Nat.le_refl _) (by simp)⟩
    · obtain ⟨n, rfl⟩ := Int.eq_ofNat_of_zero_le (show 0 ≤ a by omega)
      have hn : n ≤ 1048576 := by omega
      have hb : decide ((1048576 : Int) < (n : Int)) = false := by simp; omega
      clear hbig h0 ha1 ha2
      go_enter Tryd.func14, Tryd.ntmps14
      go_wp2_with fail
      refine (impl_Grow_ok l n w (by omega) hn).mono ?_
      rintro e w1 ⟨L, c1, a1, c2, a2, s, rfl, H, hf⟩
      obtain ⟨rfl, h1, h2, h3, h4, h5, rfl, h6⟩ := H.out
      have hcd : decide ((s.length : Int) + (n : Int) ≤ (c2 : Int)) = true := by simp; omega
      have hcd2 : decide ((n : Int) ≤ (a2 : Int)) = true := by simp; omega
      by_cases h7 : n ≤ a1
      · have hd1 : decide ((a1 : Int) < (n : Int)) = false := by simp; omega
        have hcc : ((c2 : Int) == (c1 : Int)) = true := by have := h5 h7; simp; omega
        clear h1 h2 h5 H
        go_wp2_with fail
        go_ret
        exact ⟨ret_true (by simp), ((hf.alloc _).alloc _).below (Nat.le_refl _) (by simp)⟩
      · have hd1 : decide ((a1 : Int) < (n : Int)) = true := by simp; omega
        clear h1 h2 h5 H
        go_wp2_with fail
        go_ret
        exact ⟨ret_true (by simp), ((hf.alloc _).alloc _).below (Nat.le_refl _) (by simp)⟩

end Go.Proofs.YtkdjapbogchaeaaDoor
