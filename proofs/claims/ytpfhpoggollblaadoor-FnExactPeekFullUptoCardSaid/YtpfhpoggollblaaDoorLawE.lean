/- The law on full looks. -/
import Derived.Test.YtpfhpoggollblaaDoorLawD
namespace Go.Proofs.YtpfhpoggollblaaDoor
open Go.RowKit
set_option linter.unusedVariables false
attribute [local go_sem ↓] Go.wp_at_zero Go.wp_at_succ

set_option maxHeartbeats 1600000 in
set_option maxRecDepth 100000 in
theorem FnExactPeekFull_walk (l : List UInt8) (A : Option Addr) (n c : Nat) (zs : List Nat) (w : World) (a : Addr) (hE : Eof w a) (hl : l.length ≤ 9223372036854775807) (hS : Slv w A n (zs.map fun z : Nat => Value.int .u16 (z : Int))) (hz : ∀ z ∈ zs, z ≤ 65535) (hN : l.length + n ≤ 1048576) :
    Calls Tryd.prog 5 #[.string ⟨l.toArray⟩, .slice A n c] w fun e w' => e = .returned (.bool true) ∧ Below w.heap.size w w' := by
  have hn : n = zs.length := by have := hS.1; simpa using this
  have HN := Lib.hid hn
  clear hn
  go_enter Tryd.func5, Tryd.ntmps5
  go_wp2_with fail
  refine (impl_PeekChunks l A n c zs w a hE hS hz hN).mono ?_
  rintro e w1 ⟨A1, c1, s1, rfl, hS1, H1, hf1⟩
  obtain rfl := H1.out
  go_wp2_with fail
  go_loopw [7, 8, 27] (fun _ _ i wr => ∃ k, k ≤ n ∧ i = .int .i64 (k : Int) ∧ ∃ q, wr = w1.drewN q) (fun _ _ i _ => n - (intOf i).toNat)
  case atStart => exact ⟨0, Nat.zero_le _, rfl, 0, rfl⟩
  case round =>
    obtain ⟨k, hk, rfl, q, rfl⟩ := hrel
    by_cases hlt : k < n
    · obtain ⟨ad, u, rfl, hu, hc⟩ := (hS.fr_old hf1 (by simp)).at_ hlt
      rw [List.getElem?_map] at hu
      cases hzk : zs[k]? with
      | none => rw [hzk] at hu; cases hu
      | some z =>
        rw [hzk] at hu
        simp only [Option.map_some, Option.some.injEq] at hu
        subst hu
        have hz' : z ≤ 65535 := hz z (List.mem_of_getElem? hzk)
        obtain ⟨ga, rfl, ca⟩ := hS1.get (by omega)
        have hpk := parts_get (peek s1 zs) n k hlt
        rw [peek_eq s1 zs k z hzk] at hpk
        obtain ⟨a0, a1, a2⟩ := pcells_get (parts (peek s1 zs) n) k _ _ hpk
        have x0 := ca _ _ a0
        have x1 := ca _ _ a1
        have x2 := ca _ _ a2
        clear ca a0 a1 a2 hpk hzk
        have hwr : IntKind.i64.wrap (z : Int) = z := IntWalk.i64_in _ (by omega)
        by_cases hd : z ≤ s1.length
        · rw [show decide (s1.length < z) = false by simp; omega] at x1
          have hd1 : decide (z ≤ s1.length) = true := by simp; omega
          have hle : min z s1.length = z := by omega
          go_wp2_with fail
          go_quiet (fail)
          go_wp2
          go_roundw
          case rel => exact ⟨k + 1, by omega, by go_num, _, rfl⟩
          case measure => simp [intOf]; omega
        · rw [show decide (s1.length < z) = true by simp; omega] at x1
          rw [List.take_of_length_le (by omega)] at x0
          have hd1 : decide (z ≤ s1.length) = false := by simp; omega
          have hd2 : decide (s1.length < z) = true := by simp; omega
          go_wp2_with fail
          go_quiet (fail)
          go_wp2
          go_roundw
          case rel => exact ⟨k + 1, by omega, by go_num, _, rfl⟩
          case measure => simp [intOf]; omega
    · go_wp2_with fail
      go_ret
      exact ⟨rfl, (hf1.drewN _).below (Nat.le_refl _) (by simp)⟩

end Go.Proofs.YtpfhpoggollblaaDoor
