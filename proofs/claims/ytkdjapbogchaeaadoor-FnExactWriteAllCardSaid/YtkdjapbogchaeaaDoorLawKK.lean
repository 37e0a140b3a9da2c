/- Laws on WriteTo. -/
import Derived.Test.YtkdjapbogchaeaaDoorSink2
namespace Go.Proofs.YtkdjapbogchaeaaDoor
open Go.RowKit
set_option linter.unusedVariables false
attribute [local go_sem ↓] Go.wp_at_zero Go.wp_at_succ

theorem full_eq (w : World) : (binOp .eql 71 (.iface 75 (.agg #[])) (.iface 75 (.agg #[]))).run Tryd.prog w = .ok (.bool true) w := by kernel_rfl
theorem full_ne (w : World) : (binOp .neq 71 (.iface 75 (.agg #[])) (.iface 75 (.agg #[]))).run Tryd.prog w = .ok (.bool false) w := by kernel_rfl
theorem full_nil (w : World) : (binOp .neq 71 (.iface 75 (.agg #[])) .nilIface).run Tryd.prog w = .ok (.bool true) w := by kernel_rfl
theorem nil_full (w : World) : (binOp .eql 71 .nilIface (.iface 75 (.agg #[]))).run Tryd.prog w = .ok (.bool false) w := by kernel_rfl
theorem nil_nil (w : World) : (binOp .neq 71 .nilIface .nilIface).run Tryd.prog w = .ok (.bool false) w := by kernel_rfl

set_option maxHeartbeats 1600000 in
set_option maxRecDepth 100000 in
theorem impl_WriteTo (l : List UInt8) (t : Nat) (w : World) (hl : l.length ≤ 9223372036854775807) (ht : t ≤ 65535) :
    Calls Tryd.prog 15 #[.string ⟨l.toArray⟩, .int .u16 (t : Int)] w fun e w' => ∃ (n : Nat) (f : Bool) (s r : List UInt8), e = .returned (.tuple #[.int .i64 (n : Int), .bool f, .bool false, .string ⟨s.toArray⟩, .string ⟨r.toArray⟩]) ∧ Hid (n = s.length ∧ f = decide (t < l.length) ∧ s = l.take t ∧ r = l.drop t) ∧ Fr [] w w' := by
  have q1 := full_eq
  have q2 := full_ne
  have q3 := full_nil
  have q4 := nil_full
  have q5 := nil_nil
  go_enter Tryd.func15, Tryd.ntmps15
  go_wp2_with fail
  refine (NewBufferString _ _ hl).mono ?_
  rintro e w1 ⟨b, g, pad, rfl, hB, hf, hb, hg⟩
  have hbl := hB.blk.lt
  have hgl := (hB.some_ g rfl).2.lt
  have hwt := Lib.hid (Buffer_WriteTo _ (hB.alloc (.cells #[.slice none 0 0, .int .i64 (t : Int)] 69)) w1.heap.size t (Blk.new w1 _ _) ht (by omega) (by omega))
  clear hB
  go_wp2_with fail
  refine hwt.out.mono ?_
  rintro e w2 ⟨n, B, d, len2, off2, rfl, HN, hk2, hB2, hBf2, HU, hf2⟩
  rw [unread_pad] at HU hB2
  simp only [List.drop_zero, Nat.sub_zero] at HU hB2 HN
  have hfw : Fr [] w w2 := (hf.alloc _).trans_of hf2 (by simp; omega)
  have c0 : w2.cell? ⟨w1.heap.size, 0, none⟩ = some (.slice B n d) := hk2.cell 0
  have hst := fun m : Nat => run_string_sl (P := Tryd.prog) (hB2.drewN m) 26 9 5 d Tryd.underlying26 Tryd.underlying5 Tryd.underlying9
  have hbs : Hid (∀ m : Nat, Calls Tryd.prog 35 #[.pointer (some ⟨b, 0, none⟩)] (w2.drewN m) fun e w' => e = .returned (.string ⟨(l.drop n).toArray⟩) ∧ ∃ k, w' = w2.drewN k) := by
    intro m
    refine (Buffer_String _ (hBf2.drewN m)).mono ?_
    rintro e w' ⟨r, rfl, HR, k, rfl⟩
    exact ⟨by rw [HR.out, HU.out], m + k, by simp [World.drewN, Nat.add_assoc]⟩
  have HB2 := Lib.hid hB2.1
  clear hk2 hB2 hBf2
  by_cases htl : t < l.length
  · have hfu : fullIf (decide (n < l.length - 0)) = .iface 75 (.agg #[]) := by
      have : n < l.length := by rw [HN.out]; omega
      simp [fullIf, this]
    rw [hfu]
    clear hfu
    go_wp2_with fail
    go_quiet ((go_at_call 35; first | exact hbs.out _ | exact (hbs.out _).mono fun e w' ⟨h1, h2⟩ => ⟨h1, h2⟩ | exact Calls.quiet_of_same (hbs.out _)))
    all_goals
      go_wp2_with fail
      refine bodyPost_ret (v := .tuple #[.int .i64 (n : Int), .bool true, .bool false, .string ⟨(l.take n).toArray⟩, .string ⟨(l.drop n).toArray⟩]) (by simp [results, Tryd.results15, go_sem]) rfl ?_
      refine ⟨n, true, l.take n, l.drop n, rfl, ⟨by have := HN.out; simp; omega, by simp; omega, ?_, ?_⟩, hfw.drewN _⟩
      · have := HN.out
        by_cases h : t ≤ l.length
        · rw [show n = t by omega]
        · rw [List.take_of_length_le (by omega), List.take_of_length_le (by omega)]
      · have := HN.out
        by_cases h : t ≤ l.length
        · rw [show n = t by omega]
        · rw [List.drop_eq_nil_of_le (by omega), List.drop_eq_nil_of_le (by omega)]
  · have hfu : fullIf (decide (n < l.length - 0)) = .nilIface := by
      have : ¬ n < l.length := by rw [HN.out]; omega
      simp [fullIf, this]
    rw [hfu]
    clear hfu
    go_wp2_with fail
    go_quiet ((go_at_call 35; first | exact hbs.out _ | exact (hbs.out _).mono fun e w' ⟨h1, h2⟩ => ⟨h1, h2⟩ | exact Calls.quiet_of_same (hbs.out _)))
    all_goals
      go_wp2_with fail
      refine bodyPost_ret (v := .tuple #[.int .i64 (n : Int), .bool false, .bool false, .string ⟨(l.take n).toArray⟩, .string ⟨(l.drop n).toArray⟩]) (by simp [results, Tryd.results15, go_sem]) rfl ?_
      refine ⟨n, false, l.take n, l.drop n, rfl, ⟨by have := HN.out; simp; omega, by simp; omega, ?_, ?_⟩, hfw.drewN _⟩
      · have := HN.out
        by_cases h : t ≤ l.length
        · rw [show n = t by omega]
        · rw [List.take_of_length_le (by omega), List.take_of_length_le (by omega)]
      · have := HN.out
        by_cases h : t ≤ l.length
        · rw [show n = t by omega]
        · rw [List.drop_eq_nil_of_le (by omega), List.drop_eq_nil_of_le (by omega)]

set_option maxHeartbeats 800000 in
theorem FnExactWriteAll_walk (l : List UInt8) (t : Nat) (w : World) (hl : l.length ≤ 9223372036854775807) (ht : t ≤ 65535) :
    Calls Tryd.prog 3 #[.string ⟨l.toArray⟩, .int .u16 (t : Int)] w fun e w' => e = .returned (.bool true) ∧ Below w.heap.size w w' := by
  have h1 := Lib.hid (impl_WriteTo l t w hl ht)
  by_cases htl : t < l.length
  · have hd : decide (t < l.length) = true := by simp; omega
    have hti : decide ((t : Int) < (l.length : Int)) = true := by simp; omega
    go_enter Tryd.func3, Tryd.ntmps3
    go_wp2_with fail
    refine h1.out.mono ?_
    rintro e w1 ⟨n, f, s, r, rfl, H, hf⟩
    obtain ⟨rfl, hf1, rfl, rfl⟩ := H.out
    rw [hd] at hf1
    subst hf1
    clear H
    go_wp2_with fail
    go_ret
    exact ⟨ret_true (by simp), hf.below (Nat.le_refl _) (by simp)⟩
  · have hd : decide (t < l.length) = false := by simp; omega
    have hti : decide ((t : Int) < (l.length : Int)) = false := by simp; omega
    have hk : l.take t = l := List.take_of_length_le (by omega)
    have hdr : l.drop t = [] := List.drop_eq_nil_of_le (by omega)
    go_enter Tryd.func3, Tryd.ntmps3
    go_wp2_with fail
    refine h1.out.mono ?_
    rintro e w1 ⟨n, f, s, r, rfl, H, hf⟩
    obtain ⟨rfl, hf1, hs, hr⟩ := H.out
    rw [hd] at hf1
    rw [hk] at hs
    rw [hdr] at hr
    subst hf1 hs hr
    clear H hk hdr
    go_wp2_with fail
    go_ret
    exact ⟨ret_true (by simp), hf.below (Nat.le_refl _) (by simp)⟩

end Go.Proofs.YtkdjapbogchaeaaDoor
