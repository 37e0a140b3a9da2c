/- The contracts of bytes.Buffer's functions that do not grow it. -/
import Derived.Test.YtgniidnbpkhmcaaDoorProg
import Derived.Test.YtgniidnbpkhmcaaDoorMem
import Derived.WalkKit
import Derived.WalkLawsBesides
import Derived.WalkSpells
import Derived.Outline
import Derived.Deep.QuietTactic
import Derived.BigQuiet
namespace Go.Proofs.YtgniidnbpkhmcaaDoor
open Go.RowKit
set_option linter.unusedVariables false

theorem vint {k : IntKind} {a b : Int} (h : a = b) : Value.int k a = .int k b := by rw [h]
theorem ret_int {k : IntKind} {a b : Int} (h : a = b) : Ending.returned (.int k a) = .returned (.int k b) := by rw [h]
theorem ret_true {c : Bool} (h : c = true) : Ending.returned (.bool c) = .returned (.bool true) := by rw [h]
theorem size5 : (Tryd.prog.info? 5).map (fun i => i.size) = some 1 := by kernel_rfl

theorem NewBufferString (l : List UInt8) (w : World) (hs : l.length ≤ 9223372036854775807) :
    Calls Tryd.prog 30 #[.string ⟨l.toArray⟩] w fun e w' => ∃ b g pad, e = .returned (.pointer (some ⟨b, 0, none⟩)) ∧ Buf w' b (some g) (l ++ pad) l.length 0 0 ∧ Fr [] w w' ∧ w.heap.size ≤ b ∧ w.heap.size ≤ g := by
  have hcv := fun W => run_bytes_of_string (P := Tryd.prog) W 9 22 5 ⟨l.toArray⟩ Tryd.underlying9 Tryd.underlying22 Tryd.underlying5
  simp only [str_size] at hcv
  go_enter Tryd.func30, Tryd.ntmps30
  go_wp2
  go_ret
  have h1 := grownCap_ge w l.length 0 5
  have h2 := grownCap_le_maxLen w l.length 0 5 hs
  generalize grownCap w l.length 0 5 = c at *
  rw [bytesRow_eq, str_toList, str_size]
  have hl : (l ++ List.replicate (c - l.length) (0 : UInt8)).length = c := by simp; omega
  have hm := Buf.made w (l ++ List.replicate (c - l.length) (0 : UInt8)) l.length (by omega) (by rw [hl]; exact h2)
  rw [hl] at hm
  exact ⟨_, _, _, rfl, hm.drew, (((Fr.refl [] w).alloc _).alloc _).drew, by omega, by omega⟩

section
variable {b : Nat} {g : Option Nat} {row : List UInt8} {len off : Nat} {lr : Int} (w : World) (h : Buf w b g row len off lr)
include h
theorem Buffer_Len : Calls Tryd.prog 54 #[.pointer (some ⟨b, 0, none⟩)] w fun e w' => e = .returned (.int .i64 ((len - off : Nat) : Int)) ∧ ∃ n, w' = w.drewN n := by
  have h0 := h.c0
  have h1 := h.c1
  have hl := h.off_le
  have hm := h.len_le
  have hc := h.cap_le
  clear h
  go_enter Tryd.func54, Tryd.ntmps54
  go_wp2
  go_quiet (fail)
  go_wp2
  go_ret
  exact ⟨ret_int (by omega), _, rfl⟩
theorem Buffer_Cap : Calls Tryd.prog 46 #[.pointer (some ⟨b, 0, none⟩)] w fun e w' => e = .returned (.int .i64 (row.length : Int)) ∧ w = w' := by
  have h0 := h.c0
  clear h
  generalize (g.map fun g => (⟨g, 0, none⟩ : Addr)) = A at *
  generalize row.length = cap at *
  go_enter Tryd.func46, Tryd.ntmps46
  go_wp2
  go_ret
  exact ⟨rfl, rfl⟩
theorem Buffer_Available : Calls Tryd.prog 55 #[.pointer (some ⟨b, 0, none⟩)] w fun e w' => e = .returned (.int .i64 ((row.length - len : Nat) : Int)) ∧ ∃ n, w' = w.drewN n := by
  have h0 := h.c0
  have hm := h.len_le
  have hc := h.cap_le
  clear h
  generalize (g.map fun g => (⟨g, 0, none⟩ : Addr)) = A at *
  generalize row.length = cap at *
  go_enter Tryd.func55, Tryd.ntmps55
  go_wp2
  go_quiet (fail)
  go_wp2
  go_ret
  exact ⟨ret_int (by omega), _, rfl⟩
theorem Buffer_AvailableBuffer : Calls Tryd.prog 53 #[.pointer (some ⟨b, 0, none⟩)] w fun e w' => ∃ A c, e = .returned (.slice A 0 c) ∧ Hid (A = cutA (g.map fun g => ⟨g, 0, none⟩) row.length len ∧ c = row.length - len) ∧ ∃ n, w' = w.drewN n := by
  have h0 := h.c0
  have hm := h.len_le
  have hc := h.cap_le
  clear h
  generalize (g.map fun g => (⟨g, 0, none⟩ : Addr)) = A at *
  generalize row.length = cap at *
  have hsl := fun W => run_cut_l (P := Tryd.prog) 22 5 Tryd.underlying22 size5 A len cap W len (Nat.le_refl _)
  rw [Nat.sub_self] at hsl
  go_enter Tryd.func53, Tryd.ntmps53
  go_wp2
  go_quiet (fail)
  go_wp2
  go_ret
  exact ⟨_, _, rfl, ⟨rfl, rfl⟩, _, rfl⟩
theorem Buffer_String : Calls Tryd.prog 32 #[.pointer (some ⟨b, 0, none⟩)] w fun e w' => ∃ s, e = .returned (.string ⟨s.toArray⟩) ∧ Hid (s = unread row len off) ∧ ∃ n, w' = w.drewN n := by
  have h0 := h.c0
  have h1 := h.c1
  have hl := h.off_le
  have hm := h.len_le
  have hc := h.cap_le
  have hr := h.rd_cut off (len - off)
  rw [← unread_eq] at hr
  have hu : len - off = (unread row len off).length := (unread_length hm).symm
  clear h
  generalize (g.map fun g => (⟨g, 0, none⟩ : Addr)) = A at *
  have hst := fun n : Nat => run_string_of (P := Tryd.prog) (w.drewN n) 22 9 5 (cutA A row.length off) (len - off) (row.length - off) (unread row len off) Tryd.underlying22 Tryd.underlying5 Tryd.underlying9 hu hr
  clear hu hr
  generalize unread row len off = l at *
  generalize row.length = cap at *
  have hsl := fun W => run_cut_l (P := Tryd.prog) 22 5 Tryd.underlying22 size5 A len cap W off hl
  go_enter Tryd.func32, Tryd.ntmps32
  go_wp2
  go_quiet (fail)
  go_wp2
  go_ret
  exact ⟨_, rfl, rfl, _, rfl⟩
end
end Go.Proofs.YtgniidnbpkhmcaaDoor
