/- A buffer that is written to a sink. -/
import Derived.Test.YtkdjapbogchaeaaDoorSink
namespace Go.Proofs.YtkdjapbogchaeaaDoor
open Go.RowKit
set_option linter.unusedVariables false
attribute [local go_sem ↓] Go.wp_at_zero Go.wp_at_succ

theorem nil_sink (f : Nat) (a : Addr) (w : World) : (nilAhead (f + 1) 67 (.pointer (some a)) "Write").run Tryd.prog w = .ok (some false) w := by kernel_rfl
theorem method_sink (f : Nat) (a : Addr) (w : World) : (method (f + 1) 67 (.pointer (some a)) "Write").run Tryd.prog w = .ok (73, .pointer (some a)) w := by kernel_rfl

section
variable {b g : Nat} {row : List UInt8} {len off : Nat} {lr : Int} (w : World) (h : Buf w b (some g) row len off lr)
include h
set_option maxHeartbeats 1600000 in
set_option maxRecDepth 100000 in
theorem Buffer_WriteTo (k t : Nat) (hk : Blk w k 69 #[.slice none 0 0, .int .i64 (t : Int)]) (ht : t ≤ 65535) (hkb : k ≠ b) (hkg : k ≠ g) :
    Calls Tryd.prog 34 #[.pointer (some ⟨b, 0, none⟩), .iface 67 (.pointer (some ⟨k, 0, none⟩))] w fun e w' => ∃ (n : Nat) (B : Option Addr) (d : Nat) (len' off' : Nat), e = .returned (.tuple #[.int .i64 (n : Int), fullIf (decide (n < len - off))]) ∧ Hid (n = min (len - off) t) ∧ Blk w' k 69 #[.slice B n d, .int .i64 ((t - n : Nat) : Int)] ∧ Sl w' B n ((unread row len off).take n) ∧ Buf w' b (some g) row len' off' 0 ∧ Hid (unread row len' off' = (unread row len off).drop n) ∧ Fr [b, k] w w' := by
  have hol := h.off_le
  have hll := h.len_le
  have hcl := h.cap_le
  have h2 := h.set2 0
  have c2 := h.c2
  have f2 := h.fz 2
  have hf0 : Fr [b] w (w.setCell ⟨b, 2, none⟩ (.int .i8 0)) := (Fr.refl [b] w).setCell (.inl (by simp)) _
  have hk0 := hk.fr hf0 (by simpa using hkb)
  have hL := Lib.hid (Buffer_Len _ h2)
  have HB := Lib.hid h2
  have HK := Lib.hid hk0
  clear h h2 hk hk0
  go_enter Tryd.func34, Tryd.ntmps34
  go_wp2_with fail
  generalize w.setCell ⟨b, 2, none⟩ (.int .i8 0) = w0 at *
  refine hL.out.mono ?_
  rintro e w1 ⟨rfl, k1, rfl⟩
  have hf01 : Fr [b] w (w0.drewN k1) := hf0.drewN k1
  have hmle : len - off ≤ 9223372036854775807 := by omega
  by_cases h0 : len - off = 0
  · have h0' : decide ((0 : Int) < ((len - off : Nat) : Int)) = false := by simp; omega
    have hrs := Lib.hid (Buffer_Reset _ (HB.out.drewN k1))
    have H0 := Lib.hid h0
    have h0n : len - off ≤ 0 := by omega
    clear h0
    go_wp2_with fail
    refine hrs.out.mono ?_
    rintro e w2 ⟨rfl, hB2, hf2⟩
    have hk2 := (HK.out.drewN k1).fr hf2 (by simpa using hkb)
    have HB2 := Lib.hid hB2
    have HK2 := Lib.hid hk2
    clear hB2 hk2
    go_wp2_with fail
    go_ret2
    have hu : unread row len off = [] := by
      apply List.eq_nil_of_length_eq_zero
      rw [unread_length hll]
      exact H0.out
    refine ⟨0, none, 0, 0, 0, ?_, ?_, ?_, ?_, HB2.out, ?_, ((hf01.trans hf2).more (by simp))⟩
    · simp [fullIf, H0.out]
    · show 0 = _
      rw [H0.out]
      simp
    · simpa using HK2.out
    · exact ⟨by simp, by simpa using Rd.nil _ _⟩
    · show _ = _
      rw [hu]
      simp [unread]
  · have h0' : decide ((0 : Int) < ((len - off : Nat) : Int)) = true := by simp; omega
    have c0 := HB.out.c0
    have c1 := HB.out.c1
    have hsl := fun W => run_cut_l (P := Tryd.prog) 26 5 Tryd.underlying26 size5 (some ⟨g, 0, none⟩) len row.length W off hol
    simp only [Option.map_some] at c0
    have hnil := nil_sink
    have hmet := method_sink
    have hS : Sl (w0.drewN (k1 + 1)) (cutA (some ⟨g, 0, none⟩) row.length off) (len - off) (unread row len off) := by
      refine ⟨(unread_length hll).symm, ?_⟩
      rw [unread_eq]
      exact (HB.out.drewN (k1 + 1)).rd_cut off (len - off)
    have hsw := sink_Write (w0.drewN (k1 + 1)) k t (cutA (some ⟨g, 0, none⟩) row.length off) (len - off) (row.length - off) (unread row len off) (HK.out.drewN (k1 + 1)) ht hS (by omega) (by omega)
    clear hS
    by_cases htm : t < len - off
    · have hsw' : Calls Tryd.prog 73 #[.pointer (some ⟨k, 0, none⟩), .slice (cutA (some ⟨g, 0, none⟩) row.length off) (len - off) (row.length - off)] (w0.drewN (k1 + 1)) fun e w' => ∃ (B : Option Addr) (d : Nat), e = .returned (.tuple #[.int .i64 (t : Int), .iface 75 (.agg #[])]) ∧ Blk w' k 69 #[.slice B t d, .int .i64 ((t - t : Nat) : Int)] ∧ Sl w' B t ((unread row len off).take t) ∧ Hid (0 < t → ∀ ad, B = some ad → w0.heap.size ≤ ad.block) ∧ Fr [k] (w0.drewN (k1 + 1)) w' := by
        refine hsw.mono ?_
        rintro e w' ⟨n, B, d, rfl, HN, hk2, hB2, HW, hf2⟩
        obtain rfl : n = t := by rw [HN.out]; omega
        exact ⟨B, d, by simp [fullIf, htm], hk2, hB2, HW, hf2⟩
      have HSW := Lib.hid hsw'
      clear hsw hsw'
      have hd1 : decide (((len - off : Nat) : Int) < (t : Int)) = false := by simp; omega
      have hwr : IntKind.i64.wrap ((off : Int) + (t : Int)) = (off : Int) + (t : Int) := IntWalk.i64_in _ (by omega)
      go_wp2_with fail
      go_region_with ((go_at_call 73; ((with_reducible refine HSW.out.mono ?_); rintro e w2 ⟨B, d, rfl, hk2, hB2, HW, hf2⟩; have hBf := (HB.out.drewN (k1 + 1)).fr hf2 (by simpa using Ne.symm hkb) (by rintro x ⟨⟩; simpa using Ne.symm hkg); have d1 := hBf.c1; have e1 := hBf.fz 1; have HBF := Lib.hid hBf; have HK2 := Lib.hid hk2; have HB2 := Lib.hid hB2; clear hBf hk2 hB2)))
      all_goals
        go_wp2_with fail
        go_ret2
        have hfs : Fr [b] w2 (w2.setCell ⟨b, 1, none⟩ (.int .i64 ((off : Int) + (t : Int)))) := (Fr.refl [b] w2).setCell (.inl (by simp)) _
        have hbs := HBF.out.set1 (off + t) (by omega)
        rw [Int.natCast_add] at hbs
        refine ⟨t, B, d, len, off + t, ?_, ?_, HK2.out.fr hfs (by simpa using hkb), HB2.out.fr' hfs (fun h0 ad e => ?_), hbs, ?_, ?_⟩
        · simp [fullIf, htm]
        · show t = _
          omega
        · have h1 := HW.out h0 ad e
          have h2 := HB.out.blk.lt
          simp
          omega
        · show _ = _
          unfold unread
          rw [List.drop_drop]
        · exact ((hf01.drew.more (by simp)).trans (hf2.more (by simp))).trans (hfs.more (by simp))
    · have hsw' : Calls Tryd.prog 73 #[.pointer (some ⟨k, 0, none⟩), .slice (cutA (some ⟨g, 0, none⟩) row.length off) (len - off) (row.length - off)] (w0.drewN (k1 + 1)) fun e w' => ∃ (B : Option Addr) (d : Nat), e = .returned (.tuple #[.int .i64 ((len - off : Nat) : Int), .nilIface]) ∧ Blk w' k 69 #[.slice B (len - off) d, .int .i64 ((t - (len - off) : Nat) : Int)] ∧ Sl w' B (len - off) ((unread row len off).take (len - off)) ∧ Hid (0 < len - off → ∀ ad, B = some ad → w0.heap.size ≤ ad.block) ∧ Fr [k] (w0.drewN (k1 + 1)) w' := by
        refine hsw.mono ?_
        rintro e w' ⟨n, B, d, rfl, HN, hk2, hB2, HW, hf2⟩
        obtain rfl : n = len - off := by rw [HN.out]; omega
        exact ⟨B, d, by simp [fullIf], hk2, hB2, HW, hf2⟩
      have HSW := Lib.hid hsw'
      clear hsw hsw'
      have hwr : IntKind.i64.wrap ((off : Int) + ((len - off : Nat) : Int)) = (off : Int) + ((len - off : Nat) : Int) := IntWalk.i64_in _ (by omega)
      go_wp2_with fail
      go_region_with ((go_at_call 73; ((with_reducible refine HSW.out.mono ?_); rintro e w2 ⟨B, d, rfl, hk2, hB2, HW, hf2⟩; have hBf := (HB.out.drewN (k1 + 1)).fr hf2 (by simpa using Ne.symm hkb) (by rintro x ⟨⟩; simpa using Ne.symm hkg); have d1 := hBf.c1; have e1 := hBf.fz 1; have hbs := hBf.set1 (off + (len - off)) (by omega); rw [Int.natCast_add] at hbs; have HRS := Lib.hid (Buffer_Reset _ hbs); have HBF := Lib.hid hBf; have HK2 := Lib.hid hk2; have HB2 := Lib.hid hB2; clear hBf hk2 hB2 hbs)))
      all_goals
        go_wp2_with fail
        refine HRS.out.mono ?_
        rintro e w3 ⟨rfl, hB3, hf3⟩
        have HB3 := Lib.hid hB3
        clear hB3
        go_wp2_with fail
        go_ret2
        have hfs : Fr [b] w2 w3 := ((Fr.refl [b] w2).setCell (.inl (by simp)) _).trans hf3
        refine ⟨len - off, B, d, 0, 0, ?_, ?_, HK2.out.fr hfs (by simpa using hkb), HB2.out.fr' hfs (fun h0 ad e => ?_), HB3.out, ?_, ?_⟩
        · simp [fullIf]
        · show _ = _
          omega
        · have h1 := HW.out h0 ad e
          have h2 := HB.out.blk.lt
          simp
          omega
        · show _ = _
          rw [List.drop_eq_nil_of_le (by rw [unread_length hll]; exact Nat.le_refl _)]
          simp [unread]
        · exact ((hf01.drew.more (by simp)).trans (hf2.more (by simp))).trans (hfs.more (by simp))
end

end Go.Proofs.YtkdjapbogchaeaaDoor
