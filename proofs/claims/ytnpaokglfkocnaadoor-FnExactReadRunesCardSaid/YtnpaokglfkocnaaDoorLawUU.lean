/- The law on reads of code points. -/
import Derived.Test.YtnpaokglfkocnaaDoorLawTT
import Derived.BigQuiet
namespace Go.Proofs.YtnpaokglfkocnaaDoor
open Go.RowKit
set_option linter.unusedVariables false
attribute [local go_sem ↓] Go.wp_at_zero Go.wp_at_succ

set_option maxHeartbeats 4000000 in
set_option maxRecDepth 100000 in
theorem FnExactReadRunes_walk (l : List UInt8) (n : Nat) (w : World) (hT : Tabs w) (a : Addr) (hE : Eof w a) (hl : l.length ≤ 9223372036854775807) (hn : n ≤ 65535) :
    Calls Tryd.prog 6 #[.string ⟨l.toArray⟩, .int .u16 (n : Int)] w fun e w' => e = .returned (.bool true) ∧ Below w.heap.size w w' := by
  have h1 := Lib.hid (impl_ReadRunes l n w a hE hT hn hl)
  have h2 := Lib.hid fun W => spec_ReadRunes l n W hn hl
  clear hE hT
  go_enter Tryd.func6, Tryd.ntmps6
  go_wp2_with fail
  refine h1.out.mono ?_
  rintro e w1 ⟨A1, c1, s1, rfl, hR1, H1, hf1⟩
  go_wp2_with fail
  refine (h2.out w1).mono ?_
  rintro e w2 ⟨A2, c2, s2, rfl, hR2, H2, hf2⟩
  obtain rfl : s1 = s2 := by rw [H1.out, H2.out]
  have hA := hR1.fr_old hf2 (by simp)
  have hf12 := hf1.trans hf2
  clear hR1 H1 H2 h1 h2
  go_wp2_with fail
  go_loopw [35] (fun i wr => ∃ k, k ≤ n ∧ i = .int .i64 (k : Int) ∧ Fr [] w2 wr) (fun i _ => n - (intOf i).toNat)
  case atStart => exact ⟨0, Nat.zero_le _, rfl, Fr.refl _ _⟩
  case round =>
    obtain ⟨k, hk, rfl, hfr⟩ := hrel
    by_cases hlt : k < n
    · obtain ⟨ga, rfl, ca⟩ := (hA.fr_old hfr (by simp)).get (by omega)
      obtain ⟨gb, rfl, cb⟩ := (hR2.fr_old hfr (by simp)).get (by omega)
      have hx := chs_get l n k hlt
      generalize chr (rst l k) = ch at hx
      obtain ⟨r, q, eo⟩ := ch
      have g4 := recs_get icells 4 (fun _ => rfl) (chs l n) k
      have g3 := recs_get rcells 3 (fun _ => rfl) (chs l n) k
      have a0 := ca _ _ ((g4 0 _ hx (by omega)).trans rfl)
      have a1 := ca _ _ ((g4 1 _ hx (by omega)).trans rfl)
      have a2 := ca _ _ ((g4 2 _ hx (by omega)).trans rfl)
      have a3 := ca _ _ ((g4 3 _ hx (by omega)).trans rfl)
      have b0 := cb _ _ ((g3 0 _ hx (by omega)).trans rfl)
      have b1 := cb _ _ ((g3 1 _ hx (by omega)).trans rfl)
      have b2 := cb _ _ ((g3 2 _ hx (by omega)).trans rfl)
      simp only [Nat.add_zero] at a0 b0
      have lb : gb < wr.heap.size := block_lt_of_cell b0
      have bx0 : ∀ o, (wr.alloc o).cell? ⟨gb, k * 3, none⟩ = _ := fun o => (((Fr.refl [] wr).alloc o).cell (p := ⟨gb, k * 3, none⟩) lb (by simp)).trans b0
      have bx1 : ∀ o, (wr.alloc o).cell? ⟨gb, k * 3 + 1, none⟩ = _ := fun o => (((Fr.refl [] wr).alloc o).cell (p := ⟨gb, k * 3 + 1, none⟩) lb (by simp)).trans b1
      have bx2 : ∀ o, (wr.alloc o).cell? ⟨gb, k * 3 + 2, none⟩ = _ := fun o => (((Fr.refl [] wr).alloc o).cell (p := ⟨gb, k * 3 + 2, none⟩) lb (by simp)).trans b2
      clear ca cb hx g4 g3
      cases eo
      all_goals
        go_wp2_with fail
        go_quiet (fail)
        go_wp2
        go_roundw
        case rel => exact ⟨k + 1, by omega, by go_num, (hfr.alloc _).drewN _⟩
        case measure => simp [intOf]; omega
    · go_wp2_with fail
      go_ret
      exact ⟨rfl, (hf12.trans hfr).below (Nat.le_refl _) (by simp)⟩

end Go.Proofs.YtnpaokglfkocnaaDoor
