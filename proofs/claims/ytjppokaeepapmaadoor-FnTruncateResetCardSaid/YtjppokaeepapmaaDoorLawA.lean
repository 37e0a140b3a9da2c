/- The walks of the first laws. -/
import Derived.Test.YtjppokaeepapmaaDoorSpec
import Derived.Deep.RegionWith
import Derived.Deep.DrawnRows
namespace Go.Proofs.YtjppokaeepapmaaDoor
open Go.RowKit
set_option linter.unusedVariables false
attribute [local go_sem ↓] Go.wp_at_zero Go.wp_at_succ
theorem impl_LenAfter (l : List UInt8) (n : Nat) (w : World) (hl : l.length ≤ 9223372036854775807) (hn : n ≤ 65535) :
    Calls Tryd.prog 36 #[.string ⟨l.toArray⟩, .int .u16 (n : Int)] w fun e w' => e = .returned (.int .i64 ((l.length - n : Nat) : Int)) ∧ Fr [] w w' := by
  go_enter Tryd.func36, Tryd.ntmps36
  go_wp2_with fail
  refine (NewBufferString _ _ hl).mono ?_
  rintro e w1 ⟨b, g, pad, rfl, hB, hf, hb, hg⟩
  go_wp2_with fail
  refine (Buffer_Next _ hB n).mono ?_
  rintro e w2 ⟨A, m, c, off', lr', rfl, hS, hB2, H2, hf2⟩
  go_wp2_with fail
  refine (Buffer_Len _ hB2).mono ?_
  rintro e w3 ⟨rfl, n3, rfl⟩
  go_wp2_with fail
  go_ret
  exact ⟨ret_int (by have := H2.out.1; omega), (hf.trans_of hf2 (by simp; omega)).drewN _⟩

theorem info5 : (Tryd.prog.info? 5).map (fun i => (i.zero, i.size, i.bytes)) = some (some (.int .u8 0), 1, 1) := by kernel_rfl

theorem impl_BytesAfter (l : List UInt8) (n : Nat) (w : World) (hl : l.length ≤ 140737488351232) (hn : n ≤ 65535) :
    Calls Tryd.prog 37 #[.string ⟨l.toArray⟩, .int .u16 (n : Int)] w fun e w' => ∃ A m c, e = .returned (.slice A m c) ∧ Sl w' A m (l.drop n) ∧ Fr [] w w' := by
  go_enter Tryd.func37, Tryd.ntmps37
  go_wp2_with fail
  refine (NewBufferString _ _ (by omega)).mono ?_
  rintro e w1 ⟨b, g, pad, rfl, hB, hf, hb, hg⟩
  go_wp2_with fail
  refine (Buffer_Next _ hB n).mono ?_
  rintro e w2 ⟨A2, m2, c2, off', lr', rfl, hS2, hB2, H2, hf2⟩
  go_wp2_with fail
  refine (Buffer_Bytes _ (hB2.alloc _)).mono ?_
  rintro e w3 ⟨A3, m3, c3, rfl, hS3, H3, n3, rfl⟩
  rw [unread_pad] at hS3
  have hm : m3 ≤ 140737488351232 := by have := hS3.1; simp at this; omega
  obtain ⟨v', w', hrun, ho, hg', hb'⟩ := run_app (P := Tryd.prog) ((w2.alloc (.cells #[] 5)).drewN n3) w2.heap.size 27 27 27 5 _ 1 1 Tryd.underlying27 info5 rfl (by decide) _ _ _ (own_drewN (own_empty w2 5 1) n3) _ _ _
    (hS3.src Tryd.underlying27 c3) (by omega) (by omega) (by simp)
  obtain ⟨A, c, rfl⟩ := own_form ho
  rw [Nat.zero_add] at hrun ho
  go_wp2_with (at_builtin; refine wpList_append_run rfl _ _ _ _ rfl rfl rfl hrun ?_)
  go_ret
  refine ⟨_, _, _, rfl, ?_, ?_⟩
  · have := own_sl (l := l.drop n) (by
      have e : l.drop off' = l.drop n := by
        have := H2.out.1
        by_cases h : n ≤ l.length
        · rw [show off' = n by omega]
        · rw [List.drop_eq_nil_of_le (by omega), List.drop_eq_nil_of_le (by omega)]
      rw [e] at ho
      exact ho)
    exact this
  · exact (((hf.trans_of hf2 (by simp; omega)).alloc _).drewN _).grown hg' (by simp [Value.ownBlock]; have := hf.size; have := hf2.size; omega)

end Go.Proofs.YtjppokaeepapmaaDoor
