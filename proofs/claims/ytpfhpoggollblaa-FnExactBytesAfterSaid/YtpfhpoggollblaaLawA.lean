/- The walks of the first laws. -/
import Derived.Test.YtpfhpoggollblaaSpec
import Derived.Deep.RegionWith
import Derived.Deep.DrawnRows
namespace Go.Proofs.Ytpfhpoggollblaa
open Go.RowKit
set_option linter.unusedVariables false
attribute [local go_sem ↓] Go.wp_at_zero Go.wp_at_succ

theorem FnExactNilString_walk (a : Option Addr) (n c : Nat) (l : List UInt8) (w : World) (h : Sl w a n l) :
    Calls Try.prog 3 #[.slice a n c] w fun e w' => e = .returned (.bool true) ∧ Below w.heap.size w w' := by
  go_enter Try.func3, Try.ntmps3
  go_wp2
  go_ret
  exact ⟨rfl, Below.refl _ _⟩

theorem impl_LenAfter (l : List UInt8) (n : Nat) (w : World) (hl : l.length ≤ 9223372036854775807) (hn : n ≤ 65535) :
    Calls Try.prog 14 #[.string ⟨l.toArray⟩, .int .u16 (n : Int)] w fun e w' => e = .returned (.int .i64 ((l.length - n : Nat) : Int)) ∧ Fr [] w w' := by
  go_enter Try.func14, Try.ntmps14
  go_wp2_with fail
  refine (NewBufferString _ _ hl).mono ?_
  rintro e w1 ⟨b, g, pad, rfl, hB, hf, hb, hg⟩
  go_wp2_with fail
  refine (Buffer_Next _ hB n).mono ?_
  rintro e w2 ⟨A, m, c, off', lr', rfl, hS, hB2, H2, hf2⟩
  go_wp2_with fail
  refine (Buffer_Len _ hB2).mono ?_
  rintro e w3 ⟨rfl, n3, rfl⟩
  go_wp2_with fail
  go_ret
  exact ⟨ret_int (by have := H2.out.1; omega), (hf.trans_of hf2 (by simp; omega)).drewN _⟩

theorem FnExactLenAfter_walk (l : List UInt8) (n : Nat) (w : World) (hl : l.length ≤ 9223372036854775807) (hn : n ≤ 65535) :
    Calls Try.prog 6 #[.string ⟨l.toArray⟩, .int .u16 (n : Int)] w fun e w' => e = .returned (.bool true) ∧ Below w.heap.size w w' := by
  go_enter Try.func6, Try.ntmps6
  go_wp2_with fail
  refine (impl_LenAfter l n w hl hn).mono ?_
  rintro e w1 ⟨rfl, hf⟩
  go_wp2_with fail
  refine (spec_From l n w1 hl).mono ?_
  rintro e w2 ⟨rfl, rfl⟩
  go_wp2_with fail
  go_ret
  exact ⟨ret_true (by simp), hf.below (Nat.le_refl _) (by simp)⟩

theorem info5 : (Try.prog.info? 5).map (fun i => (i.zero, i.size, i.bytes)) = some (some (.int .u8 0), 1, 1) := by kernel_rfl

theorem impl_BytesAfter (l : List UInt8) (n : Nat) (w : World) (hl : l.length ≤ 140737488351232) (hn : n ≤ 65535) :
    Calls Try.prog 16 #[.string ⟨l.toArray⟩, .int .u16 (n : Int)] w fun e w' => ∃ A m c, e = .returned (.slice A m c) ∧ Sl w' A m (l.drop n) ∧ Fr [] w w' := by
  go_enter Try.func16, Try.ntmps16
  go_wp2_with fail
  refine (NewBufferString _ _ (by omega)).mono ?_
  rintro e w1 ⟨b, g, pad, rfl, hB, hf, hb, hg⟩
  go_wp2_with fail
  refine (Buffer_Next _ hB n).mono ?_
  rintro e w2 ⟨A2, m2, c2, off', lr', rfl, hS2, hB2, H2, hf2⟩
  go_wp2_with fail
  refine (Buffer_Bytes _ (hB2.alloc _)).mono ?_
  rintro e w3 ⟨A3, m3, c3, rfl, hS3, H3, n3, rfl⟩
  rw [unread_pad] at hS3
  have hm : m3 ≤ 140737488351232 := by have := hS3.1; simp at this; omega
  obtain ⟨v', w', hrun, ho, hg', hb'⟩ := run_app (P := Try.prog) ((w2.alloc (.cells #[] 5)).drewN n3) w2.heap.size 22 22 22 5 _ 1 1 Try.underlying22 info5 rfl (by decide) _ _ _ (own_drewN (own_empty w2 5 1) n3) _ _ _
    (hS3.src Try.underlying22 c3) (by omega) (by omega) (by simp)
  obtain ⟨A, c, rfl⟩ := own_form ho
  rw [Nat.zero_add] at hrun ho
  go_wp2_with (at_builtin; refine wpList_append_run rfl _ _ _ _ rfl rfl rfl hrun ?_)
  go_ret
  refine ⟨_, _, _, rfl, ?_, ?_⟩
  · have := own_sl (l := l.drop n) (by
      have e : l.drop off' = l.drop n := by
        have := H2.out.1
        by_cases h : n ≤ l.length
        · rw [show off' = n by omega]
        · rw [List.drop_eq_nil_of_le (by omega), List.drop_eq_nil_of_le (by omega)]
      rw [e] at ho
      exact ho)
    exact this
  · exact (((hf.trans_of hf2 (by simp; omega)).alloc _).drewN _).grown hg' (by simp [Value.ownBlock]; have := hf.size; have := hf2.size; omega)

theorem FnExactBytesAfter_walk (l : List UInt8) (n : Nat) (w : World) (hl : l.length ≤ 140737488351232) (hn : n ≤ 65535) :
    Calls Try.prog 7 #[.string ⟨l.toArray⟩, .int .u16 (n : Int)] w fun e w' => e = .returned (.bool true) ∧ Below w.heap.size w w' := by
  have h1 := Lib.hid fun W => impl_BytesAfter l n W hl hn
  have h2 := Lib.hid fun W => spec_From l n W (by omega)
  have hwr : IntKind.i64.wrap (n : Int) = n := IntWalk.i64_in _ (by omega)
  go_enter Try.func7, Try.ntmps7
  go_wp2_with fail
  go_region_with (first | (go_at_call 16; ((with_reducible refine (h1.out _).mono ?_); rintro e w1 ⟨A, m, c, rfl, hS, hf⟩; have hst := run_string_sl (P := Try.prog) hS 22 9 5 c Try.underlying22 Try.underlying5 Try.underlying9)) | (go_at_call 15; ((with_reducible refine (h2.out _).mono ?_); rintro e w2 ⟨rfl, rfl⟩)))
  all_goals
    go_wp2
    go_ret
    exact ⟨rfl, ((Fr.refl [] w).drew.trans hf).below (Nat.le_refl _) (by simp)⟩

theorem impl_ChangeBytes (l : List UInt8) (n : Nat) (c : UInt8) (w : World) (hl : l.length ≤ 9223372036854775807) (hn : n ≤ 65535) :
    Calls Try.prog 12 #[.string ⟨l.toArray⟩, .int .u16 (n : Int), .int .u8 (c.toNat : Int)] w fun e w' => ∃ s, e = .returned (.string ⟨s.toArray⟩) ∧ Hid (s = l.set n c) ∧ Fr [] w w' := by
  go_enter Try.func12, Try.ntmps12
  go_wp2_with fail
  refine (NewBufferString _ _ (by omega)).mono ?_
  rintro e w1 ⟨b, g, pad, rfl, hB, hf, hb, hg⟩
  go_wp2_with fail
  refine (Buffer_Bytes _ hB).mono ?_
  rintro e w2 ⟨A, m, c2, rfl, hS, H2, k2, rfl⟩
  obtain ⟨hA, hc2⟩ := H2.out
  simp only [cutA_zero, Option.map_some] at hA
  subst hA
  have hm : m = l.length := by have := hS.1; rw [unread_pad] at this; simpa using this
  clear hS H2 hc2
  subst hm
  obtain ⟨hgb, hR⟩ := hB.some_ g rfl
  by_cases h : n < l.length
  · have hc := hR.cell n
    rw [List.getElem?_append_left h, List.getElem?_eq_getElem h] at hc
    have hz := hR.frozen (i := n) (by simp; omega)
    simp only [Option.map_some, bv] at hc
    go_wp2_with fail
    refine (Buffer_String _ ((hB.drewN k2).setRow n c)).mono ?_
    rintro e w3 ⟨s, rfl, H3, k3, rfl⟩
    rw [unread_set _ _ _ _ h] at H3
    go_wp2_with fail
    go_ret
    exact ⟨_, rfl, H3, ((hf.drewN _).setCell (p := ⟨g, n, none⟩) (.inr hg) _).drewN _⟩
  · go_wp2_with fail
    refine (Buffer_String _ (hB.drewN k2)).mono ?_
    rintro e w3 ⟨s, rfl, H3, k3, rfl⟩
    go_wp2_with fail
    go_ret
    refine ⟨_, rfl, ?_, (hf.drewN _)⟩
    show s = _
    rw [H3.out, unread_pad, List.set_eq_of_length_le (by omega)]
    rfl

theorem spec_Changed_yes (l : List UInt8) (n k : Nat) (c : UInt8) (w : World) (hl : l.length ≤ 9223372036854775807) (hn : n < l.length) (hk : n < k) :
    Calls Try.prog 13 #[.string ⟨l.toArray⟩, .int .i64 (n : Int), .int .u8 (c.toNat : Int), .int .i64 (k : Int)] w fun e w' => ∃ s, e = .returned (.string ⟨s.toArray⟩) ∧ Hid (s = l.set n c) ∧ Fr [] w w' := by
  have hwr : IntKind.i64.wrap ((n : Int) + 1) = (n : Int) + 1 := IntWalk.i64_in _ (by omega)
  have h0 : (0 : Int) ≤ (n : Int) + 1 := by omega
  have h1 : ((n : Int) + 1).toNat = n + 1 := by omega
  have hst := fun (W : World) (hc : W.cell? ⟨w.heap.size, 0, none⟩ = some (.int .u8 (c.toNat : Int))) => run_string_sl (P := Try.prog) (w := W) (A := some ⟨w.heap.size, 0, none⟩) (n := 1) (l := [c]) ⟨rfl, fun j hj => ⟨_, rfl, by
    have : j = 0 := by simp at hj; omega
    subst this
    exact hc⟩⟩ 22 9 5 1 Try.underlying22 Try.underlying5 Try.underlying9
  have HS := Lib.hid hst
  clear hst
  have hst1 := HS.out (w.alloc (.cells #[.int .u8 (c.toNat : Int)] 5)).drew (World.cell?_alloc_at _ _ _ _ rfl)
  go_enter Try.func13, Try.ntmps13
  go_wp2_with fail
  go_region
  all_goals
    go_wp2
    go_ret
    refine ⟨_, rfl, ?_, ((Fr.refl [] w).alloc _).drew⟩
    show _ = l.set n c
    rw [List.set_eq_take_append_cons_drop]
    simp [hn]

theorem spec_Changed_no (l : List UInt8) (n k : Nat) (c : UInt8) (w : World) (hl : l.length ≤ 9223372036854775807) (hn : l.length ≤ n ∨ k ≤ n) :
    Calls Try.prog 13 #[.string ⟨l.toArray⟩, .int .i64 (n : Int), .int .u8 (c.toNat : Int), .int .i64 (k : Int)] w fun e w' => e = .returned (.string ⟨l.toArray⟩) ∧ w = w' := by
  by_cases h : l.length ≤ n
  · clear hn
    go_enter Try.func13, Try.ntmps13
    go_wp2_with fail
    go_ret
    exact ⟨rfl, rfl⟩
  · have h1 : k ≤ n := by omega
    have h2 : n < l.length := by omega
    clear hn h
    go_enter Try.func13, Try.ntmps13
    go_wp2_with fail
    go_ret
    exact ⟨rfl, rfl⟩

theorem FnExactChangeBytes_walk (l : List UInt8) (n : Nat) (c : UInt8) (w : World) (hl : l.length ≤ 9223372036854775807) (hn : n ≤ 65535) :
    Calls Try.prog 5 #[.string ⟨l.toArray⟩, .int .u16 (n : Int), .int .u8 (c.toNat : Int)] w fun e w' => e = .returned (.bool true) ∧ Below w.heap.size w w' := by
  go_enter Try.func5, Try.ntmps5
  go_wp2_with fail
  refine (impl_ChangeBytes l n c w hl hn).mono ?_
  rintro e w1 ⟨s, rfl, H1, hf⟩
  go_wp2_with fail
  by_cases h : n < l.length
  · refine (spec_Changed_yes l n _ c w1 hl h h).mono ?_
    rintro e w2 ⟨s2, rfl, H2, hf2⟩
    go_wp2_with fail
    go_ret
    exact ⟨ret_true (by rw [H1.out, H2.out]; simp), (hf.trans hf2).below (Nat.le_refl _) (by simp)⟩
  · refine (spec_Changed_no l n _ c w1 hl (.inl (by omega))).mono ?_
    rintro e w2 ⟨rfl, rfl⟩
    go_wp2_with fail
    go_ret
    exact ⟨ret_true (by rw [H1.out, List.set_eq_of_length_le (by omega)]; simp), hf.below (Nat.le_refl _) (by simp)⟩

end Go.Proofs.Ytpfhpoggollblaa
