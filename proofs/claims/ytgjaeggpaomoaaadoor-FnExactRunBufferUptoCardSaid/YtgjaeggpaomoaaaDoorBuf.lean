/- The contracts of bytes.Buffer's functions that do not grow it. -/
import Derived.Test.YtgjaeggpaomoaaaDoorProg
import Derived.Test.YtgjaeggpaomoaaaDoorMem
import Derived.WalkKit
import Derived.WalkLawsBesides
import Derived.WalkSpells
import Derived.Outline
import Derived.Deep.QuietTactic
import Derived.BigQuiet
namespace Go.Proofs.YtgjaeggpaomoaaaDoor
open Go.RowKit
set_option linter.unusedVariables false

theorem vint {k : IntKind} {a b : Int} (h : a = b) : Value.int k a = .int k b := by rw [h]
theorem ret_int {k : IntKind} {a b : Int} (h : a = b) : Ending.returned (.int k a) = .returned (.int k b) := by rw [h]
theorem ret_true {c : Bool} (h : c = true) : Ending.returned (.bool c) = .returned (.bool true) := by rw [h]
theorem size5 : (Tryd.prog.info? 5).map (fun i => i.size) = some 1 := by kernel_rfl

theorem NewBufferString (l : List UInt8) (w : World) (hs : l.length ≤ 9223372036854775807) :
    Calls Tryd.prog 28 #[.string ⟨l.toArray⟩] w fun e w' => ∃ b g pad, e = .returned (.pointer (some ⟨b, 0, none⟩)) ∧ Buf w' b (some g) (l ++ pad) l.length 0 0 ∧ Fr [] w w' ∧ w.heap.size ≤ b ∧ w.heap.size ≤ g := by
  have hcv := fun W => run_bytes_of_string (P := Tryd.prog) W 9 22 5 ⟨l.toArray⟩ Tryd.underlying9 Tryd.underlying22 Tryd.underlying5
  simp only [str_size] at hcv
  go_enter Tryd.func28, Tryd.ntmps28
  go_wp2
  go_ret
  have h1 := grownCap_ge w l.length 0 5
  have h2 := grownCap_le_maxLen w l.length 0 5 hs
  generalize grownCap w l.length 0 5 = c at *
  rw [bytesRow_eq, str_toList, str_size]
  have hl : (l ++ List.replicate (c - l.length) (0 : UInt8)).length = c := by simp; omega
  have hm := Buf.made w (l ++ List.replicate (c - l.length) (0 : UInt8)) l.length (by omega) (by rw [hl]; exact h2)
  rw [hl] at hm
  exact ⟨_, _, _, rfl, hm.drew, (((Fr.refl [] w).alloc _).alloc _).drew, by omega, by omega⟩

section
variable {b : Nat} {g : Option Nat} {row : List UInt8} {len off : Nat} {lr : Int} (w : World) (h : Buf w b g row len off lr)
include h
theorem Buffer_Len : Calls Tryd.prog 62 #[.pointer (some ⟨b, 0, none⟩)] w fun e w' => e = .returned (.int .i64 ((len - off : Nat) : Int)) ∧ ∃ n, w' = w.drewN n := by
  have h0 := h.c0
  have h1 := h.c1
  have hl := h.off_le
  have hm := h.len_le
  have hc := h.cap_le
  clear h
  go_enter Tryd.func62, Tryd.ntmps62
  go_wp2
  go_quiet (fail)
  go_wp2
  go_ret
  exact ⟨ret_int (by omega), _, rfl⟩
theorem Buffer_Bytes : Calls Tryd.prog 63 #[.pointer (some ⟨b, 0, none⟩)] w fun e w' => ∃ A n c, e = .returned (.slice A n c) ∧ Sl w' A n (unread row len off) ∧ Hid (A = cutA (g.map fun g => ⟨g, 0, none⟩) row.length off ∧ c = row.length - off) ∧ ∃ n, w' = w.drewN n := by
  have h0 := h.c0
  have h1 := h.c1
  have hl := h.off_le
  have hm := h.len_le
  have hc := h.cap_le
  have hr := h.rd_cut off (len - off)
  rw [← unread_eq] at hr
  have hu : len - off = (unread row len off).length := (unread_length hm).symm
  have hS : ∀ n, Sl (w.drewN n) (cutA (g.map fun g => ⟨g, 0, none⟩) row.length off) (len - off) (unread row len off) := fun n => ⟨hu, hr⟩
  have HS := Lib.hid hS
  clear h hr hu hS
  generalize (g.map fun g => (⟨g, 0, none⟩ : Addr)) = A at *
  generalize unread row len off = l at *
  generalize row.length = cap at *
  have hsl := fun W => run_cut_l (P := Tryd.prog) 22 5 Tryd.underlying22 size5 A len cap W off hl
  go_enter Tryd.func63, Tryd.ntmps63
  go_wp2
  go_quiet (fail)
  go_wp2
  go_ret
  exact ⟨_, _, _, rfl, HS.out _, ⟨rfl, rfl⟩, _, rfl⟩
theorem Buffer_String : Calls Tryd.prog 31 #[.pointer (some ⟨b, 0, none⟩)] w fun e w' => ∃ s, e = .returned (.string ⟨s.toArray⟩) ∧ Hid (s = unread row len off) ∧ ∃ n, w' = w.drewN n := by
  have h0 := h.c0
  have h1 := h.c1
  have hl := h.off_le
  have hm := h.len_le
  have hc := h.cap_le
  have hr := h.rd_cut off (len - off)
  rw [← unread_eq] at hr
  have hu : len - off = (unread row len off).length := (unread_length hm).symm
  clear h
  generalize (g.map fun g => (⟨g, 0, none⟩ : Addr)) = A at *
  have hst := fun n : Nat => run_string_of (P := Tryd.prog) (w.drewN n) 22 9 5 (cutA A row.length off) (len - off) (row.length - off) (unread row len off) Tryd.underlying22 Tryd.underlying5 Tryd.underlying9 hu hr
  clear hu hr
  generalize unread row len off = l at *
  generalize row.length = cap at *
  have hsl := fun W => run_cut_l (P := Tryd.prog) 22 5 Tryd.underlying22 size5 A len cap W off hl
  go_enter Tryd.func31, Tryd.ntmps31
  go_wp2
  go_quiet (fail)
  go_wp2
  go_ret
  exact ⟨_, rfl, rfl, _, rfl⟩
theorem Buffer_Next_raw (n : Nat) : Calls Tryd.prog 51 #[.pointer (some ⟨b, 0, none⟩), .int .i64 (n : Int)] w fun e w' =>
      e = .returned (.slice (cutA (g.map fun g => ⟨g, 0, none⟩) row.length off) (min n (len - off)) (row.length - off)) ∧ Buf w' b g row len (off + min n (len - off)) (if min n (len - off) = 0 then 0 else -1) ∧ Fr [b] w w' := by
  have hL := Lib.hid fun k => Buffer_Len _ (h.set2 k)
  have hB := Lib.hid h
  have c0 := h.c0
  have c1 := h.c1
  have c2 := h.c2
  have f1 := h.fz 1
  have f2 := h.fz 2
  have hl := h.off_le
  have hm := h.len_le
  have hc := h.cap_le
  clear h
  have hsl' := Lib.hid fun (W : World) (k : Nat) (hk : off + k ≤ row.length) => run_cut_lh (P := Tryd.prog) 22 5 Tryd.underlying22 size5 (g.map fun g => ⟨g, 0, none⟩) len row.length W off (off + k) (by omega) hk
  by_cases hn : n ≤ len - off
  · rw [show min n (len - off) = n by omega]
    have hsl := fun W => hsl'.out W n (by omega)
    rw [show off + n - off = n by omega] at hsl
    by_cases h0 : n = 0
    · subst h0
      rw [if_pos rfl]
      simp only [Nat.add_zero] at hsl
      go_enter Tryd.func51, Tryd.ntmps51
      go_wp2_with (go_at_call 62; refine (hL.out 0).mono ?_; rintro e w1 ⟨rfl, n1, rfl⟩)
      go_quiet (fail)
      go_wp2
      go_ret
      have hf := ((hB.out.set2 0).drewN (n1 + nq)).set1 off (by omega)
      exact ⟨rfl, hf, (((Fr.refl [b] w).setCell (.inl (by simp)) _).drewN _).setCell (.inl (by simp)) _⟩
    · rw [if_neg h0]
      have h0' : 0 < n := by omega
      clear h0
      simp only [Int.natCast_add] at hsl
      go_enter Tryd.func51, Tryd.ntmps51
      go_wp2_with (go_at_call 62; refine (hL.out 0).mono ?_; rintro e w1 ⟨rfl, n1, rfl⟩)
      go_quiet (fail)
      go_wp2
      go_ret
      have hf := (((hB.out.set2 0).drewN (n1 + nq)).set1 (off + n) (by omega)).set2 (-1)
      rw [Int.natCast_add] at hf
      exact ⟨rfl, hf, ((((Fr.refl [b] w).setCell (.inl (by simp)) _).drewN _).setCell (.inl (by simp)) _).setCell (.inl (by simp)) _⟩
  · rw [show min n (len - off) = len - off by omega]
    have hsl := fun W => hsl'.out W (len - off) (by omega)
    rw [show off + (len - off) - off = len - off by omega] at hsl
    simp only [Int.natCast_add] at hsl
    by_cases h0 : len - off = 0
    · rw [if_pos h0]
      have H0 := Lib.hid h0
      have h0' : len - off ≤ 0 := by omega
      clear h0
      have hok : off + (len - off) ≤ row.length := by omega
      generalize hk : len - off = k at *
      have HK := Lib.hid hk
      clear hk
      go_enter Tryd.func51, Tryd.ntmps51
      go_wp2_with (go_at_call 62; refine (hL.out 0).mono ?_; rintro e w1 ⟨rfl, n1, rfl⟩)
      go_quiet (fail)
      go_wp2
      go_ret
      have hf := ((hB.out.set2 0).drewN (n1 + nq)).set1 (off + k) (by have := HK.out; omega)
      rw [Int.natCast_add] at hf
      exact ⟨rfl, hf, (((Fr.refl [b] w).setCell (.inl (by simp)) _).drewN _).setCell (.inl (by simp)) _⟩
    · rw [if_neg h0]
      have h0' : 0 < len - off := by omega
      clear h0
      have hok : off + (len - off) ≤ row.length := by omega
      generalize hk : len - off = k at *
      have HK := Lib.hid hk
      clear hk
      go_enter Tryd.func51, Tryd.ntmps51
      go_wp2_with (go_at_call 62; refine (hL.out 0).mono ?_; rintro e w1 ⟨rfl, n1, rfl⟩)
      go_quiet (fail)
      go_wp2
      go_ret
      have hf := (((hB.out.set2 0).drewN (n1 + nq)).set1 (off + k) (by have := HK.out; omega)).set2 (-1)
      rw [Int.natCast_add] at hf
      exact ⟨rfl, hf, ((((Fr.refl [b] w).setCell (.inl (by simp)) _).drewN _).setCell (.inl (by simp)) _).setCell (.inl (by simp)) _⟩
theorem Buffer_Next (n : Nat) : Calls Tryd.prog 51 #[.pointer (some ⟨b, 0, none⟩), .int .i64 (n : Int)] w fun e w' => ∃ A m c off' lr',
      e = .returned (.slice A m c) ∧ Sl w' A m ((unread row len off).take n) ∧ Buf w' b g row len off' lr' ∧ Hid (off' = off + min n (len - off) ∧ lr' = if min n (len - off) = 0 then 0 else -1) ∧ Fr [b] w w' := by
  refine (Buffer_Next_raw w h n).mono ?_
  rintro e w' ⟨rfl, hB, hf⟩
  refine ⟨_, _, _, _, _, rfl, ⟨?_, ?_⟩, hB, ⟨rfl, rfl⟩, hf⟩
  · rw [List.length_take, unread_length h.len_le]
  · have := hB.rd_cut off (min n (len - off))
    rw [unread_eq, List.take_take]
    exact this
end
end Go.Proofs.YtgjaeggpaomoaaaDoor
