/- The walks of the first laws. -/
import Derived.Test.YtpfhpoggollblaaDoorSpec
import Derived.Deep.RegionWith
import Derived.Deep.DrawnRows
namespace Go.Proofs.YtpfhpoggollblaaDoor
open Go.RowKit
set_option linter.unusedVariables false
attribute [local go_sem ↓] Go.wp_at_zero Go.wp_at_succ
theorem info5 : (Tryd.prog.info? 5).map (fun i => (i.zero, i.size, i.bytes)) = some (some (.int .u8 0), 1, 1) := by kernel_rfl

theorem impl_ChangeBytes (l : List UInt8) (n : Nat) (c : UInt8) (w : World) (hl : l.length ≤ 9223372036854775807) (hn : n ≤ 65535) :
    Calls Tryd.prog 16 #[.string ⟨l.toArray⟩, .int .u16 (n : Int), .int .u8 (c.toNat : Int)] w fun e w' => ∃ s, e = .returned (.string ⟨s.toArray⟩) ∧ Hid (s = l.set n c) ∧ Fr [] w w' := by
  go_enter Tryd.func16, Tryd.ntmps16
  go_wp2_with fail
  refine (NewBufferString _ _ (by omega)).mono ?_
  rintro e w1 ⟨b, g, pad, rfl, hB, hf, hb, hg⟩
  go_wp2_with fail
  refine (Buffer_Bytes _ hB).mono ?_
  rintro e w2 ⟨A, m, c2, rfl, hS, H2, k2, rfl⟩
  obtain ⟨hA, hc2⟩ := H2.out
  simp only [cutA_zero, Option.map_some] at hA
  subst hA
  have hm : m = l.length := by have := hS.1; rw [unread_pad] at this; simpa using this
  clear hS H2 hc2
  subst hm
  obtain ⟨hgb, hR⟩ := hB.some_ g rfl
  by_cases h : n < l.length
  · have hc := hR.cell n
    rw [List.getElem?_append_left h, List.getElem?_eq_getElem h] at hc
    have hz := hR.frozen (i := n) (by simp; omega)
    simp only [Option.map_some, bv] at hc
    go_wp2_with fail
    refine (Buffer_String _ ((hB.drewN k2).setRow n c)).mono ?_
    rintro e w3 ⟨s, rfl, H3, k3, rfl⟩
    rw [unread_set _ _ _ _ h] at H3
    go_wp2_with fail
    go_ret
    exact ⟨_, rfl, H3, ((hf.drewN _).setCell (p := ⟨g, n, none⟩) (.inr hg) _).drewN _⟩
  · go_wp2_with fail
    refine (Buffer_String _ (hB.drewN k2)).mono ?_
    rintro e w3 ⟨s, rfl, H3, k3, rfl⟩
    go_wp2_with fail
    go_ret
    refine ⟨_, rfl, ?_, (hf.drewN _)⟩
    show s = _
    rw [H3.out, unread_pad, List.set_eq_of_length_le (by omega)]
    rfl

theorem spec_Changed_yes (l : List UInt8) (n k : Nat) (c : UInt8) (w : World) (hl : l.length ≤ 9223372036854775807) (hn : n < l.length) (hk : n < k) :
    Calls Tryd.prog 9 #[.string ⟨l.toArray⟩, .int .i64 (n : Int), .int .u8 (c.toNat : Int), .int .i64 (k : Int)] w fun e w' => ∃ s, e = .returned (.string ⟨s.toArray⟩) ∧ Hid (s = l.set n c) ∧ Fr [] w w' := by
  have hwr : IntKind.i64.wrap ((n : Int) + 1) = (n : Int) + 1 := IntWalk.i64_in _ (by omega)
  have h0 : (0 : Int) ≤ (n : Int) + 1 := by omega
  have h1 : ((n : Int) + 1).toNat = n + 1 := by omega
  have hst := fun (W : World) (hc : W.cell? ⟨w.heap.size, 0, none⟩ = some (.int .u8 (c.toNat : Int))) => run_string_sl (P := Tryd.prog) (w := W) (A := some ⟨w.heap.size, 0, none⟩) (n := 1) (l := [c]) ⟨rfl, fun j hj => ⟨_, rfl, by
    have : j = 0 := by simp at hj; omega
    subst this
    exact hc⟩⟩ 36 9 5 1 Tryd.underlying36 Tryd.underlying5 Tryd.underlying9
  have HS := Lib.hid hst
  clear hst
  have hst1 := HS.out (w.alloc (.cells #[.int .u8 (c.toNat : Int)] 5)).drew (World.cell?_alloc_at _ _ _ _ rfl)
  go_enter Tryd.func9, Tryd.ntmps9
  go_wp2_with fail
  go_region
  all_goals
    go_wp2
    go_ret
    refine ⟨_, rfl, ?_, ((Fr.refl [] w).alloc _).drew⟩
    show _ = l.set n c
    rw [List.set_eq_take_append_cons_drop]
    simp [hn]

theorem spec_Changed_no (l : List UInt8) (n k : Nat) (c : UInt8) (w : World) (hl : l.length ≤ 9223372036854775807) (hn : l.length ≤ n ∨ k ≤ n) :
    Calls Tryd.prog 9 #[.string ⟨l.toArray⟩, .int .i64 (n : Int), .int .u8 (c.toNat : Int), .int .i64 (k : Int)] w fun e w' => e = .returned (.string ⟨l.toArray⟩) ∧ w = w' := by
  by_cases h : l.length ≤ n
  · clear hn
    go_enter Tryd.func9, Tryd.ntmps9
    go_wp2_with fail
    go_ret
    exact ⟨rfl, rfl⟩
  · have h1 : k ≤ n := by omega
    have h2 : n < l.length := by omega
    clear hn h
    go_enter Tryd.func9, Tryd.ntmps9
    go_wp2_with fail
    go_ret
    exact ⟨rfl, rfl⟩

end Go.Proofs.YtpfhpoggollblaaDoor
