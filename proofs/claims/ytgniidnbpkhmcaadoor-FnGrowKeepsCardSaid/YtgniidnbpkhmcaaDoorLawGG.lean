/- Laws on growing. -/
import Derived.Test.YtgniidnbpkhmcaaDoorLawFF
import Derived.Test.YtgniidnbpkhmcaaDoorDraw4
namespace Go.Proofs.YtgniidnbpkhmcaaDoor
open Go.RowKit
set_option linter.unusedVariables false
attribute [local go_sem ↓] Go.wp_at_zero Go.wp_at_succ

theorem ints_any (w : World) (r : Nat) (cs : Array Value) (P : Int → Prop) (h : ∀ y (hy : y < cs.size), ∃ a, cs[y] = .int .i64 a ∧ P a) (hr : r < w.heap.size) :
    ∀ (W : World) (y : Nat), Fr [r] (w.alloc (.cells cs 3)).drew W → y < cs.size → ∃ a : Int, W.cell? ⟨w.heap.size, y, none⟩ = some (.int .i64 a) ∧ P a := by
  intro W y hf hy
  have hk := (Blk.drew (Blk.new w 3 cs)).fr hf (by simp; omega)
  have hc := hk.cell y
  obtain ⟨a, ha, hP⟩ := h y hy
  rw [Array.getElem?_eq_getElem hy, ha] at hc
  exact ⟨a, hc, hP⟩

def okGrow (a : Int) : Prop := (-9223372036854775808 ≤ a ∧ a < 0) ∨ (0 ≤ a ∧ a ≤ 65535)
theorem seven : ∀ y (hy : y < (#[.int .i64 (-1), .int .i64 (-9223372036854775808), .int .i64 0, .int .i64 64, .int .i64 65, .int .i64 512, .int .i64 4096] : Array Value).size), ∃ a, (#[.int .i64 (-1), .int .i64 (-9223372036854775808), .int .i64 0, .int .i64 64, .int .i64 65, .int .i64 512, .int .i64 4096] : Array Value)[y] = .int .i64 a ∧ okGrow a := by
  intro y hy
  rcases (show y = 0 ∨ y = 1 ∨ y = 2 ∨ y = 3 ∨ y = 4 ∨ y = 5 ∨ y = 6 by simp at hy; omega) with rfl | rfl | rfl | rfl | rfl | rfl | rfl
  · exact ⟨_, rfl, .inl (by omega)⟩
  · exact ⟨_, rfl, .inl (by omega)⟩
  · exact ⟨_, rfl, .inr (by omega)⟩
  · exact ⟨_, rfl, .inr (by omega)⟩
  · exact ⟨_, rfl, .inr (by omega)⟩
  · exact ⟨_, rfl, .inr (by omega)⟩
  · exact ⟨_, rfl, .inr (by omega)⟩

set_option maxHeartbeats 1600000 in
set_option maxRecDepth 100000 in
theorem DrawGrow (A : Option Addr) (n c : Nat) (l : List UInt8) (w : World) (hS : Sl w A n l) (hn : n ≤ 1048576) :
    Calls Tryd.prog 16 #[.slice A n c] w fun e w' => ∃ (s : List UInt8) (a : Int), e = .returned (.tuple #[.string ⟨s.toArray⟩, .int .i64 a]) ∧ s.length ≤ 4096 ∧ okGrow a ∧ Fr [] w w' := by
  go_enter Tryd.func16, Tryd.ntmps16
  go_wp2_with fail
  refine (rd_long _ w.heap.size A n c l 0 (Dr.made hS hn) (by omega)).mono ?_
  rintro e w1 ⟨s, rfl, hs, hD1, hf1⟩
  go_wp2_with fail
  refine (rd_pick w1 w.heap.size A n c l _ 8 hD1 (by omega) (by omega) (by omega)).mono ?_
  rintro e w3 ⟨x, rfl, hx, hD3, hf3⟩
  have hf := ((((Fr.refl [] w).alloc (.cells #[.slice A n c, .int .i64 0] 72)).trans_of hf1 (by simp)).trans_of hf3 (by simp))
  rcases (show (((x : Int) == 0) = true) ∨ (((x : Int) == 0) = false ∧ ((x : Int) == 1) = true) ∨ (((x : Int) == 0) = false ∧ ((x : Int) == 1) = false) by simp; omega) with m0 | ⟨m0, m1⟩ | ⟨m0, m1⟩
  · have hlt := hD3.lt
    have HV := Lib.hid (ints_any w3 w.heap.size _ okGrow seven hlt)
    have hP0 : Calls Tryd.prog 36 #[.pointer (some ⟨w.heap.size, 0, none⟩), .int .i64 7] _ _ := rd_pick (w3.alloc (.cells #[.int .i64 (-1), .int .i64 (-9223372036854775808), .int .i64 0, .int .i64 64, .int .i64 65, .int .i64 512, .int .i64 4096] 3)).drew w.heap.size A n c l _ 7 ((hD3.alloc _).fr ((Fr.refl [] _).drew) (by simp) (by simp)) (by omega) (by omega) (by omega)
    have HP := Lib.hid hP0
    clear hP0
    have hfr := Lib.hid ((hf.alloc (.cells #[.int .i64 (-1), .int .i64 (-9223372036854775808), .int .i64 0, .int .i64 64, .int .i64 65, .int .i64 512, .int .i64 4096] 3)).drew)
    clear hf hD1 hD3 hf1 hf3
    go_wp2_with fail
    go_region_with ((go_at_call 36; ((with_reducible refine HP.out.mono ?_); rintro e w4 ⟨y, rfl, hy, hD4, hf4⟩; obtain ⟨a, hc, ha⟩ := HV.out w4 y hf4 (by simpa using hy); have HA := Lib.hid ha; clear ha)))
    all_goals
      go_wp2_with fail
      go_ret2
      exact ⟨s, a, rfl, hs, HA.out, hfr.out.trans_of hf4 (by simp)⟩
  · go_wp2_with fail
    refine (rd_pick w3 w.heap.size A n c l _ 256 hD3 (by omega) (by omega) (by omega)).mono ?_
    rintro e w4 ⟨y, rfl, hy, hD4, hf4⟩
    go_wp2_with fail
    refine (rd_pick w4 w.heap.size A n c l _ 256 hD4 (by omega) (by omega) (by omega)).mono ?_
    rintro e w5 ⟨z, rfl, hz, hD5, hf5⟩
    have hyz : y * z ≤ 65025 := by
      have := Nat.mul_le_mul (show y ≤ 255 by omega) (show z ≤ 255 by omega)
      omega
    have hyz2 : (y : Int) * (z : Int) = ((y * z : Nat) : Int) := by simp
    have hyw : IntKind.i64.wrap ((y : Int) * (z : Int)) = ((y * z : Nat) : Int) := by rw [hyz2]; exact IntWalk.i64_in _ (by omega)
    clear hyz2
    go_wp2_with fail
    go_ret2
    exact ⟨s, ((y * z : Nat) : Int), rfl, hs, .inr (by omega), (hf.trans_of hf4 (by simp)).trans_of hf5 (by simp)⟩
  · go_wp2_with fail
    refine (rd_pick w3 w.heap.size A n c l _ 200 hD3 (by omega) (by omega) (by omega)).mono ?_
    rintro e w4 ⟨y, rfl, hy, hD4, hf4⟩
    go_wp2_with fail
    go_ret2
    exact ⟨s, _, rfl, hs, .inr (by omega), hf.trans_of hf4 (by simp)⟩

end Go.Proofs.YtgniidnbpkhmcaaDoor
