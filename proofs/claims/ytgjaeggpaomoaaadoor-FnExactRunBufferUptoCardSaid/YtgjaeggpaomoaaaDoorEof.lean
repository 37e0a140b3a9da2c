/- io.EOF, Peek, and what a call returned as a part. -/
import Derived.Test.YtgjaeggpaomoaaaDoorLawA
import Derived.Deep.RegionWith
import Derived.Deep.DrawnRows
import Derived.LaidEql
namespace Go.Proofs.YtgjaeggpaomoaaaDoor
open Go.RowKit
set_option linter.unusedVariables false
attribute [local go_sem ↓] Go.wp_at_zero Go.wp_at_succ

/-- The error io.EOF as a value. -/
def eofv (a : Addr) : Value := .iface 137 (.pointer (some a))
/-- io.EOF lies in its variable. -/
def Eof (w : World) (a : Addr) : Prop := w.cell? ⟨1, 0, none⟩ = some (.iface 137 (.pointer (some a)))
theorem Eof.lt {w : World} {a : Addr} (h : Eof w a) : 1 < w.heap.size := block_lt_of_cell (a := ⟨1, 0, none⟩) h
theorem Eof.fr {S : List Nat} {w w' : World} {a : Addr} (h : Eof w a) (hf : Fr S w w') (hn : 1 ∉ S) : Eof w' a := (hf.cell (p := ⟨1, 0, none⟩) h.lt hn).trans h
theorem Eof.fr_old {S : List Nat} {w w' : World} {a : Addr} (h : Eof w a) (hf : Fr S w w') (hn : ∀ k ∈ S, w.heap.size ≤ k) : Eof w' a := h.fr hf (fun hs => by have := hn _ hs; have := h.lt; omega)

theorem run_eql_eof (a : Addr) (w : World) : (binOp .eql 68 (.iface 137 (.pointer (some a))) (.iface 137 (.pointer (some a)))).run Tryd.prog w = .ok (.bool true) w := by
  obtain ⟨i, hi⟩ : ∃ i, Tryd.prog.info? 137 = some i := by
    cases h : Tryd.prog.info? 137 with
    | some i => exact ⟨i, rfl⟩
    | none => exact absurd (show (Tryd.prog.info? 137).isSome = true by kernel_rfl) (by simp [h])
  obtain ⟨j, hj⟩ : ∃ i, Tryd.prog.info? 139 = some i := by
    cases h : Tryd.prog.info? 139 with
    | some i => exact ⟨i, rfl⟩
    | none => exact absurd (show (Tryd.prog.info? 139).isSome = true by kernel_rfl) (by simp [h])
  have hc : i.comparable = true := by
    have : (Tryd.prog.info? 137).map (·.comparable) = some true := by kernel_rfl
    simpa [hi] using this
  exact run_eql_iface_ptr_same (P := Tryd.prog) w a Tryd.underlying68 Tryd.underlying137 hi hc hj
theorem run_neq_eof (a : Addr) (w : World) : (binOp .neq 68 (.iface 137 (.pointer (some a))) (.iface 137 (.pointer (some a)))).run Tryd.prog w = .ok (.bool false) w := by
  have h := run_eql_eof a w
  simp only [binOp] at h ⊢
  simp only [Sem.run_bind] at h ⊢
  revert h
  cases (Op.equal 68 (.iface 137 (.pointer (some a))) (.iface 137 (.pointer (some a)))).run Tryd.prog w <;> simp [Result.andThen]

section
variable {b : Nat} {g : Option Nat} {row : List UInt8} {len off : Nat} {lr : Int} (w : World) (h : Buf w b g row len off lr)
include h
theorem Buffer_Peek_eof (a : Addr) (hE : Eof w a) (n : Nat) (hn : len - off < n) : Calls Tryd.prog 52 #[.pointer (some ⟨b, 0, none⟩), .int .i64 (n : Int)] w fun e w' => ∃ A m c, e = .returned (.tuple #[.slice A m c, .iface 137 (.pointer (some a))]) ∧ Sl w' A m (unread row len off) ∧ Hid (A = cutA (g.map fun g => ⟨g, 0, none⟩) row.length off) ∧ ∃ n, w' = w.drewN n := by
  have hL := Lib.hid (Buffer_Len _ h)
  have h0 := h.c0
  have h1 := h.c1
  have hl := h.off_le
  have hm := h.len_le
  have hc := h.cap_le
  unfold Eof at hE
  have hr := h.rd_cut off (len - off)
  rw [← unread_eq] at hr
  have hu : len - off = (unread row len off).length := (unread_length hm).symm
  have HS := Lib.hid (show Sl w (cutA (g.map fun g => ⟨g, 0, none⟩) row.length off) (len - off) (unread row len off) from ⟨hu, hr⟩)
  clear h hr hu
  generalize (g.map fun g => (⟨g, 0, none⟩ : Addr)) = A at *
  generalize unread row len off = l at *
  generalize row.length = cap at *
  have hsl := fun W => run_cut_l (P := Tryd.prog) 22 5 Tryd.underlying22 size5 A len cap W off hl
  go_enter Tryd.func52, Tryd.ntmps52
  go_wp2_with (go_at_call 62; refine (hL.out).mono ?_; rintro e w1 ⟨rfl, n1, rfl⟩)
  go_quiet (fail)
  go_wp2
  go_ret2
  exact ⟨_, _, _, rfl, HS.out, rfl, _, World.drewN_drewN _ _ _⟩
theorem Buffer_Peek_ok (n : Nat) (hn : n ≤ len - off) : Calls Tryd.prog 52 #[.pointer (some ⟨b, 0, none⟩), .int .i64 (n : Int)] w fun e w' => ∃ A m c, e = .returned (.tuple #[.slice A m c, .nilIface]) ∧ Sl w' A m ((unread row len off).take n) ∧ Hid (A = cutA (g.map fun g => ⟨g, 0, none⟩) row.length off) ∧ ∃ n, w' = w.drewN n := by
  have hL := Lib.hid (Buffer_Len _ h)
  have h0 := h.c0
  have h1 := h.c1
  have hl := h.off_le
  have hm := h.len_le
  have hc := h.cap_le
  have hr := h.rd_cut off n
  have hr2 : (row.drop off).take n = (unread row len off).take n := by
    rw [unread_eq, List.take_take, show min n (len - off) = n by omega]
  rw [hr2] at hr
  have hu : n = ((unread row len off).take n).length := by
    rw [List.length_take, unread_length hm]
    omega
  have HS := Lib.hid (show Sl w (cutA (g.map fun g => ⟨g, 0, none⟩) row.length off) n ((unread row len off).take n) from ⟨hu, hr⟩)
  have hsl := fun W => run_cut_lh (P := Tryd.prog) 22 5 Tryd.underlying22 size5 (g.map fun g => ⟨g, 0, none⟩) len row.length W off (off + n) (by omega) (by omega)
  rw [show off + n - off = n by omega, Int.natCast_add] at hsl
  clear h hr hu hr2
  generalize (g.map fun g => (⟨g, 0, none⟩ : Addr)) = A at *
  generalize List.take n (unread row len off) = l at *
  generalize row.length = cap at *
  have hwr : IntKind.i64.wrap ((off : Int) + (n : Int)) = off + n := IntWalk.i64_in _ (by omega)
  go_enter Tryd.func52, Tryd.ntmps52
  go_wp2_with (go_at_call 62; refine (hL.out).mono ?_; rintro e w1 ⟨rfl, n1, rfl⟩)
  go_quiet (fail)
  go_wp2
  go_ret2
  exact ⟨_, _, _, rfl, HS.out, rfl, _, World.drewN_drewN _ _ _⟩
end

/-- What ChangePeek makes of a text. -/
def chg (l : List UInt8) (m n : Nat) (c : UInt8) : List UInt8 := if n < m then l.set n c else l

end Go.Proofs.YtgjaeggpaomoaaaDoor
