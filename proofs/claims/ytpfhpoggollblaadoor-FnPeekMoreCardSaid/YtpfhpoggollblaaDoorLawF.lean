/- The laws on looks and changes of drawn inputs. -/
import Derived.Test.YtpfhpoggollblaaDoorLawD
import Derived.Test.YtpfhpoggollblaaDoorDraw3
namespace Go.Proofs.YtpfhpoggollblaaDoor
open Go.RowKit
set_option linter.unusedVariables false
attribute [local go_sem ↓] Go.wp_at_zero Go.wp_at_succ

set_option maxHeartbeats 1600000 in
theorem FnChange_walk (A : Option Addr) (n c : Nat) (l : List UInt8) (w : World) (a : Addr) (hE : Eof w a) (hS : Sl w A n l) :
    Calls Tryd.prog 7 #[.slice A n c] w fun e w' => e = .returned (.bool true) ∧ Below w.heap.size w w' := by
  go_enter Tryd.func7, Tryd.ntmps7
  go_wp2_with fail
  by_cases hn : n ≤ 1048576
  · refine (large_no A n c w hn).mono ?_
    rintro e w1 ⟨rfl, rfl⟩
    go_wp2_with fail
    refine (DrawChangeBytes A n c l w hS hn).mono ?_
    rintro e w1 ⟨s, z, x, rfl, hs, hz, hf1⟩
    go_wp2_with fail
    refine (impl_ChangeBytes s z x w1 (by omega) (by omega)).mono ?_
    rintro e w2 ⟨t, rfl, H2, hf2⟩
    go_wp2_with fail
    refine (impl_ChangePeek s s.length z x w2 a ((hE.fr hf1 (by simp)).fr hf2 (by simp)) (by omega) (by omega) (by omega)).mono ?_
    rintro e w3 ⟨u, rfl, H3, hf3⟩
    go_wp2_with fail
    refine (impl_ChangePeek s z z x w3 a (((hE.fr hf1 (by simp)).fr hf2 (by simp)).fr hf3 (by simp)) (by omega) (by omega) (by omega)).mono ?_
    rintro e w4 ⟨v, rfl, H4, hf4⟩
    have hf := ((hf1.trans hf2).trans hf3).trans hf4
    obtain rfl : u = t := by
      rw [H2.out, H3.out, chg]
      split
      · rfl
      · rw [List.set_eq_of_length_le (by omega)]
    obtain rfl : v = s := by rw [H4.out, chg, if_neg (by omega)]
    have hlen : ((u.length : Int) == (v.length : Int)) = true := by rw [H2.out]; simp
    by_cases hz2 : z < v.length
    · have hzu : z < u.length := by rw [H2.out]; simpa using hz2
      have hget : u[z] = x := by
        have := H2.out
        subst this
        simp
      have d1 : decide (v.length ≤ z) = false := by simp; omega
      have d2 : decide (z < v.length) = true := by simp; omega
      clear H2 H3 H4
      go_wp2_with fail
      go_ret
      exact ⟨ret_true (by simp; rw [← hget]; rfl), hf.below (Nat.le_refl _) (by simp)⟩
    · obtain rfl : u = v := by rw [H2.out, List.set_eq_of_length_le (by omega)]
      have d1 : decide (u.length ≤ z) = true := by simp; omega
      clear H2 H3 H4
      go_wp2_with fail
      go_ret
      exact ⟨rfl, hf.below (Nat.le_refl _) (by simp)⟩
  · refine (large_yes A n c w (by omega)).mono ?_
    rintro e w1 ⟨rfl, rfl⟩
    go_wp2_with fail
    go_ret
    exact ⟨rfl, Below.refl _ _⟩

set_option maxHeartbeats 3200000 in
set_option maxRecDepth 100000 in
theorem FnPeekMore_walk (A : Option Addr) (n c : Nat) (l : List UInt8) (w : World) (a : Addr) (hE : Eof w a) (hS : Sl w A n l) :
    Calls Tryd.prog 6 #[.slice A n c] w fun e w' => e = .returned (.bool true) ∧ Below w.heap.size w w' := by
  go_enter Tryd.func6, Tryd.ntmps6
  go_wp2_with fail
  by_cases hn : n ≤ 1048576
  · refine (large_no A n c w hn).mono ?_
    rintro e w1 ⟨rfl, rfl⟩
    go_wp2_with fail
    refine (DrawPeekChunks A n c l w hS hn).mono ?_
    rintro e w1 ⟨s, B, m, d, zs, rfl, hs, hm, hB, hz, hf1⟩
    go_wp2_with fail
    refine (impl_PeekChunks s B m d zs w1 a (hE.fr hf1 (by simp)) hB (fun z h => by have := hz z h; omega) (by omega)).mono ?_
    rintro e w2 ⟨C, d2, s2, rfl, hC, H2, hf2⟩
    have hf12 := hf1.trans hf2
    have hB2 := hB.fr_old hf2 (by simp)
    go_wp2_with fail
    go_loopw [7, 8, 24, 29] (fun _ _ i _ wr => ∃ k, k ≤ m ∧ i = .int .i64 (k : Int) ∧ ∃ q, wr = w2.drewN q) (fun _ _ i _ _ => m - (intOf i).toNat)
    case atStart => exact ⟨0, Nat.zero_le _, rfl, 0, rfl⟩
    case round =>
      obtain ⟨k, hk, rfl, q, rfl⟩ := hrel
      by_cases hlt : k < m
      · go_wp2_with fail
        go_loopw [8, 29] (fun _ i wr => ∃ j, j ≤ m ∧ i = .int .i64 (j : Int) ∧ ∃ q, wr = w2.drewN q) (fun _ i _ => m - (intOf i).toNat)
        case atStart => exact ⟨0, Nat.zero_le _, rfl, q, rfl⟩
        case round =>
          obtain ⟨j, hj, rfl, q', rfl⟩ := hrel
          by_cases hlt2 : j < m
          · obtain ⟨ad, u, rfl, hu, hc⟩ := hB2.at_ hlt
            obtain ⟨ad', u', e', hu', hc'⟩ := hB2.at_ hlt2
            injection e' with e'
            subst e'
            rw [List.getElem?_map] at hu hu'
            obtain ⟨zk, hzk, rfl⟩ := Option.map_eq_some_iff.1 hu
            obtain ⟨zj, hzj, rfl⟩ := Option.map_eq_some_iff.1 hu'
            obtain ⟨ga, rfl, ca⟩ := hC.get (by omega)
            have pk := parts_get (peek s zs) m k hlt
            have pj := parts_get (peek s zs) m j hlt2
            rw [peek_eq s zs k zk hzk] at pk
            rw [peek_eq s zs j zj hzj] at pj
            obtain ⟨a0, a1, a2⟩ := pcells_get (parts (peek s zs) m) k _ _ pk
            obtain ⟨b0, b1, b2⟩ := pcells_get (parts (peek s zs) m) j _ _ pj
            have x0 := ca _ _ a0
            have x1 := ca _ _ a1
            have y0 := ca _ _ b0
            have y1 := ca _ _ b1
            have hzk' := hz zk (List.mem_of_getElem? hzk)
            have hzj' := hz zj (List.mem_of_getElem? hzj)
            clear ca a0 a1 a2 b0 b1 b2 pk pj hu hu' hzk hzj
            by_cases hle : zk ≤ zj
            · have g1 : decide (zk ≤ zj) = true := by simp; omega
              have hlen : (s.take zk).length ≤ (s.take zj).length := by simp; omega
              have htk : (s.take zj).take (s.take zk).length = s.take zk := by
                rw [List.take_take, List.length_take, show min (min zk s.length) zj = min zk s.length by omega]
                by_cases h : zk ≤ s.length
                · rw [show min zk s.length = zk by omega]
                · rw [List.take_of_length_le (by omega), List.take_of_length_le (by omega)]
              have hee : decide (s.length < zk) = true → decide (s.length < zj) = true := by simp; omega
              generalize hek : decide (s.length < zk) = ek at *
              generalize hej : decide (s.length < zj) = ej at *
              generalize s.take zk = tk at *
              generalize s.take zj = tj at *
              have g2 : decide (tj.length < tk.length) = false := by simp; omega
              clear hek hej
              cases ek with
              | false =>
                clear hee
                go_wp2_with fail
                go_quiet (fail)
                go_wp2
                go_roundw
                case rel => exact ⟨j + 1, by omega, by go_num, _, rfl⟩
                case measure => simp [intOf]; omega
              | true =>
                obtain rfl := hee rfl
                clear hee
                go_wp2_with fail
                go_quiet (fail)
                go_wp2
                go_roundw
                case rel => exact ⟨j + 1, by omega, by go_num, _, rfl⟩
                case measure => simp [intOf]; omega
            · have g1 : decide (zk ≤ zj) = false := by simp; omega
              go_wp2_with fail
              go_quiet (fail)
              go_wp2
              go_roundw
              case rel => exact ⟨j + 1, by omega, by go_num, _, rfl⟩
              case measure => simp [intOf]; omega
          · go_wp2_with fail
            go_roundw
            case rel => exact ⟨k + 1, by omega, by go_num, _, rfl⟩
            case measure => simp [intOf]; omega
      · go_wp2_with fail
        go_ret
        exact ⟨ret_true (by simp), (hf12.drewN _).below (Nat.le_refl _) (by simp)⟩
  · refine (large_yes A n c w (by omega)).mono ?_
    rintro e w1 ⟨rfl, rfl⟩
    go_wp2_with fail
    go_ret
    exact ⟨rfl, Below.refl _ _⟩

end Go.Proofs.YtpfhpoggollblaaDoor
