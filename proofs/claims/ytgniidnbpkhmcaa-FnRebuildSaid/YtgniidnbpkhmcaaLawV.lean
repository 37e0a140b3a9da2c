/- A builder that is reset holds just what is written then. -/
import Derived.Test.YtgniidnbpkhmcaaLawS
import Derived.Test.YtgniidnbpkhmcaaDraw4
namespace Go.Proofs.Ytgniidnbpkhmcaa
open Go.RowKit
set_option linter.unusedVariables false
attribute [local go_sem ↓] Go.wp_at_zero Go.wp_at_succ

theorem twice_get (ls : List (List UInt8)) : ∀ (k : Nat) (x : List UInt8), ls[k]? = some x → (twice ls)[2 * k]? = some x ∧ (twice ls)[2 * k + 1]? = some [] := by
  induction ls with
  | nil => intro k x h; simp at h
  | cons y r ih =>
    intro k x h
    have e : twice (y :: r) = y :: [] :: twice r := by simp [twice]
    cases k with
    | zero => simp at h; subst h; simp [e]
    | succ k =>
      have := ih k x (by simpa using h)
      rw [e, show 2 * (k + 1) = 2 * k + 1 + 1 by omega, show 2 * k + 1 + 1 + 1 = (2 * k + 1) + 1 + 1 by omega]
      simpa using this

set_option maxHeartbeats 1600000 in
set_option maxRecDepth 100000 in
theorem FnRebuild_walk (A : Option Addr) (n c : Nat) (l : List UInt8) (w : World) (hS : Sl w A n l) :
    Calls Try.prog 7 #[.slice A n c] w fun e w' => e = .returned (.bool true) ∧ Below w.heap.size w w' := by
  go_enter Try.func7, Try.ntmps7
  go_wp2_with fail
  by_cases hn : n ≤ 1048576
  · refine (large_no A n c w hn).mono ?_
    rintro e w1 ⟨rfl, rfl⟩
    go_wp2_with fail
    refine (DrawRebuildStrings A n c l w hS hn).mono ?_
    rintro e w1 ⟨B, m, d, ls, rfl, hm, hB, hz, hf1⟩
    have hml : m = ls.length := by have := hB.1; simpa using this
    have hsum : (ls.map List.length).sum ≤ 20480 := by have := sum_le ls hz; omega
    have HM := Lib.hid hml
    have hi := Lib.hid (impl_RebuildStrings B m d ls w1 hB (by omega))
    clear hml
    go_wp2_with fail
    refine hi.out.mono ?_
    rintro e w2 ⟨D, d2, rfl, hD, hf2⟩
    have hf12 := hf1.trans hf2
    have hB2 := hB.fr_old hf2 (by simp)
    go_wp2_with fail
    go_loopw [18] (fun i wr => ∃ k, k ≤ m ∧ i = .int .i64 (k : Int) ∧ Fr [] w2 wr) (fun i _ => m - (intOf i).toNat)
    case atStart => exact ⟨0, by omega, rfl, Fr.refl _ _⟩
    case round =>
      obtain ⟨k, hk, rfl, hf⟩ := hrel
      by_cases hkm : k < m
      · obtain ⟨ad, x, rfl, hx, hc⟩ := (hB2.fr_old hf (by simp)).text hkm
        obtain ⟨t0, t1⟩ := twice_get ls k x hx
        have hxl : x.length ≤ 4096 := hz x (List.mem_of_getElem? hx)
        have hb := Lib.hid fun W hW => impl_BuildStrings (some ⟨wr.heap.size, 0, none⟩) 1 1 [x] W hW (by simp; omega)
        have hcx := hc
        go_wp2_with fail
        refine (hb.out _ (slv_new2 wr #[.string ⟨x.toArray⟩] 9)).mono ?_
        rintro e w3 ⟨E, e3, s, rfl, hE, H3, hf3⟩
        obtain rfl : s = x := by rw [H3.out]; simp
        clear H3 hE
        have hfa := ((Fr.refl [] wr).alloc (.cells #[.string ⟨s.toArray⟩] 9)).trans hf3
        have hD3 := hD.fr_old (hf.trans hfa) (by simp)
        obtain ⟨bd, y, rfl, hy, hcd⟩ := hD3.text (k := 2 * k) (by omega)
        obtain ⟨bd', y', e', hy', hcd'⟩ := hD3.text (k := 2 * k + 1) (by omega)
        injection e' with e'
        subst e'
        obtain rfl : y = s := by rw [t0] at hy; simpa using hy.symm
        obtain rfl : y' = [] := by rw [t1] at hy'; simpa using hy'.symm
        have e1 : IntKind.i64.wrap (2 * (k : Int)) = 2 * (k : Int) := IntWalk.i64_in _ (by omega)
        have e2 : IntKind.i64.wrap (2 * (k : Int) + 1) = 2 * (k : Int) + 1 := IntWalk.i64_in _ (by omega)
        have e3 : (2 * (k : Int)).toNat = 2 * k := by omega
        have e4 : (2 * (k : Int) + 1).toNat = 2 * k + 1 := by omega
        have e5 : (0 : Int) ≤ 2 * (k : Int) := by omega
        have e6 : (0 : Int) ≤ 2 * (k : Int) + 1 := by omega
        have e7 : decide (2 * (m : Int) ≤ 2 * (k : Int) + 1) = false := by simp; omega
        have e8 : 2 * k < 2 * m := by omega
        have e9 : 2 * k + 1 < 2 * m := by omega
        have hcd2 : w3.cell? ⟨bd.block, bd.off + (2 * k + 1), none⟩ = some (.string ⟨#[]⟩) := by have := hcd'; simpa [Addr.add] using this
        clear t0 t1 hy hy' hx hcd'
        go_wp2_with fail
        go_roundw
        case rel => exact ⟨k + 1, by omega, by go_num, hf.trans hfa⟩
        case measure => simp [intOf]; omega
      · go_wp2_with fail
        go_ret
        exact ⟨ret_true (by simp), (hf12.trans hf).below (Nat.le_refl _) (by simp)⟩
  · refine (large_yes A n c w (by omega)).mono ?_
    rintro e w1 ⟨rfl, rfl⟩
    go_wp2_with fail
    go_ret
    exact ⟨rfl, Below.refl _ _⟩

end Go.Proofs.Ytgniidnbpkhmcaa
