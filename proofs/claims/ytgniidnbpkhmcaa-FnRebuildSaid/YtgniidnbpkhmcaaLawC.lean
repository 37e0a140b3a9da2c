/- The law on Next. -/
import Derived.Test.YtgniidnbpkhmcaaSpec
import Derived.Test.YtgniidnbpkhmcaaChunks
import Derived.Deep.RegionWith
import Derived.Deep.DrawnRows
import Derived.LoopTactic
namespace Go.Proofs.Ytgniidnbpkhmcaa
open Go.RowKit
set_option linter.unusedVariables false
attribute [local go_sem ↓] Go.wp_at_zero Go.wp_at_succ

theorem infoSc : (Try.prog.info? 9).map (fun i => (i.zero, i.size, i.bytes)) = some (some (.string ByteArray.empty), 1, 16) := by kernel_rfl

/-- The loop of the reference's NextChunks. -/
def NextSRel (w : World) (l : List UInt8) (zs : List Nat) (s v i : Value) (wr : World) : Prop :=
  ∃ k, k ≤ zs.length ∧ i = .int .i64 (k : Int) ∧ s = .string ⟨(l.drop (tot zs k)).toArray⟩ ∧ wr.ownsRow w.heap.size 9 1 v k ((chunks l zs k).map sv) ∧ Fr [] w wr

theorem sameTexts_true (A B : Option Addr) (n c d : Nat) (ls : List (List UInt8)) (w : World) (hA : Slv w A n (ls.map sv)) (hB : Slv w B n (ls.map sv)) (hn : n ≤ 9223372036854775807) :
    Calls Try.prog 18 #[.slice A n c, .slice B n d] w fun e w' => e = .returned (.bool true) ∧ Fr [] w w' := by
  have hn' : n = ls.length := by have := hA.1; simpa using this
  have HN := Lib.hid hn'
  clear hn'
  go_enter Try.func18, Try.ntmps18
  go_wp2_with fail
  go_loopw [5, 13] (fun _ i wr => ∃ k, k ≤ n ∧ i = .int .i64 (k : Int) ∧ ∃ q, wr = w.drewN q) (fun _ i _ => n - (intOf i).toNat)
  case atStart => exact ⟨0, Nat.zero_le _, rfl, 0, rfl⟩
  case round =>
    obtain ⟨k, hk, rfl, q, rfl⟩ := hrel
    by_cases hlt : k < n
    · obtain ⟨ad, u, rfl, hu, hc⟩ := hA.at_ hlt
      obtain ⟨bd, u', rfl, hu', hc'⟩ := hB.at_ hlt
      rw [hu] at hu'
      obtain rfl : u = u' := by simpa using hu'
      clear hu'
      obtain ⟨x, rfl⟩ : ∃ x : List UInt8, u = .string ⟨x.toArray⟩ := by
        rw [List.getElem?_map] at hu
        cases hx : ls[k]? with
        | none => rw [hx] at hu; cases hu
        | some x => rw [hx] at hu; exact ⟨x, by simpa [sv] using hu.symm⟩
      clear hu
      go_wp2_with fail
      go_quiet (fail)
      go_wp2
      go_roundw
      case rel => exact ⟨k + 1, by omega, by go_num, _, rfl⟩
      case measure => simp [intOf]; omega
    · go_wp2_with fail
      go_ret
      exact ⟨rfl, (Fr.refl [] w).drewN _⟩

end Go.Proofs.Ytgniidnbpkhmcaa
