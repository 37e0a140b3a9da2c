/- io.EOF, Peek, and what a call returned as a part. -/
import Derived.Test.YtpfhpoggollblaaDoorLawA
import Derived.Deep.RegionWith
import Derived.Deep.DrawnRows
import Derived.LaidEql
namespace Go.Proofs.YtpfhpoggollblaaDoor
open Go.RowKit
set_option linter.unusedVariables false
attribute [local go_sem ↓] Go.wp_at_zero Go.wp_at_succ

/-- The error io.EOF as a value. -/
def eofv (a : Addr) : Value := .iface 69 (.pointer (some a))
/-- io.EOF lies in its variable. -/
def Eof (w : World) (a : Addr) : Prop := w.cell? ⟨0, 0, none⟩ = some (.iface 69 (.pointer (some a)))
theorem Eof.lt {w : World} {a : Addr} (h : Eof w a) : 0 < w.heap.size := block_lt_of_cell (a := ⟨0, 0, none⟩) h
theorem Eof.fr {S : List Nat} {w w' : World} {a : Addr} (h : Eof w a) (hf : Fr S w w') (hn : 0 ∉ S) : Eof w' a := (hf.cell (p := ⟨0, 0, none⟩) h.lt hn).trans h
theorem Eof.fr_old {S : List Nat} {w w' : World} {a : Addr} (h : Eof w a) (hf : Fr S w w') (hn : ∀ k ∈ S, w.heap.size ≤ k) : Eof w' a := h.fr hf (fun hs => by have := hn _ hs; have := h.lt; omega)

theorem run_eql_eof (a : Addr) (w : World) : (binOp .eql 46 (.iface 69 (.pointer (some a))) (.iface 69 (.pointer (some a)))).run Tryd.prog w = .ok (.bool true) w := by
  obtain ⟨i, hi⟩ : ∃ i, Tryd.prog.info? 69 = some i := by
    cases h : Tryd.prog.info? 69 with
    | some i => exact ⟨i, rfl⟩
    | none => exact absurd (show (Tryd.prog.info? 69).isSome = true by kernel_rfl) (by simp [h])
  obtain ⟨j, hj⟩ : ∃ i, Tryd.prog.info? 85 = some i := by
    cases h : Tryd.prog.info? 85 with
    | some i => exact ⟨i, rfl⟩
    | none => exact absurd (show (Tryd.prog.info? 85).isSome = true by kernel_rfl) (by simp [h])
  have hc : i.comparable = true := by
    have : (Tryd.prog.info? 69).map (·.comparable) = some true := by kernel_rfl
    simpa [hi] using this
  exact run_eql_iface_ptr_same (P := Tryd.prog) w a Tryd.underlying46 Tryd.underlying69 hi hc hj
theorem run_neq_eof (a : Addr) (w : World) : (binOp .neq 46 (.iface 69 (.pointer (some a))) (.iface 69 (.pointer (some a)))).run Tryd.prog w = .ok (.bool false) w := by
  have h := run_eql_eof a w
  simp only [binOp] at h ⊢
  simp only [Sem.run_bind] at h ⊢
  revert h
  cases (Op.equal 46 (.iface 69 (.pointer (some a))) (.iface 69 (.pointer (some a)))).run Tryd.prog w <;> simp [Result.andThen]

section
variable {b : Nat} {g : Option Nat} {row : List UInt8} {len off : Nat} {lr : Int} (w : World) (h : Buf w b g row len off lr)
include h
theorem Buffer_Peek_eof (a : Addr) (hE : Eof w a) (n : Nat) (hn : len - off < n) : Calls Tryd.prog 18 #[.pointer (some ⟨b, 0, none⟩), .int .i64 (n : Int)] w fun e w' => ∃ A m c, e = .returned (.tuple #[.slice A m c, .iface 69 (.pointer (some a))]) ∧ Sl w' A m (unread row len off) ∧ Hid (A = cutA (g.map fun g => ⟨g, 0, none⟩) row.length off) ∧ ∃ n, w' = w.drewN n := by
  have hL := Lib.hid (Buffer_Len _ h)
  have h0 := h.c0
  have h1 := h.c1
  have hl := h.off_le
  have hm := h.len_le
  have hc := h.cap_le
  unfold Eof at hE
  have hr := h.rd_cut off (len - off)
  rw [← unread_eq] at hr
  have hu : len - off = (unread row len off).length := (unread_length hm).symm
  have HS := Lib.hid (show Sl w (cutA (g.map fun g => ⟨g, 0, none⟩) row.length off) (len - off) (unread row len off) from ⟨hu, hr⟩)
  clear h hr hu
  generalize (g.map fun g => (⟨g, 0, none⟩ : Addr)) = A at *
  generalize unread row len off = l at *
  generalize row.length = cap at *
  have hsl := fun W => run_cut_l (P := Tryd.prog) 36 5 Tryd.underlying36 size5 A len cap W off hl
  go_enter Tryd.func18, Tryd.ntmps18
  go_wp2_with (go_at_call 27; refine (hL.out).mono ?_; rintro e w1 ⟨rfl, n1, rfl⟩)
  go_quiet (fail)
  go_wp2
  go_ret2
  exact ⟨_, _, _, rfl, HS.out, rfl, _, World.drewN_drewN _ _ _⟩
theorem Buffer_Peek_ok (n : Nat) (hn : n ≤ len - off) : Calls Tryd.prog 18 #[.pointer (some ⟨b, 0, none⟩), .int .i64 (n : Int)] w fun e w' => ∃ A m c, e = .returned (.tuple #[.slice A m c, .nilIface]) ∧ Sl w' A m ((unread row len off).take n) ∧ Hid (A = cutA (g.map fun g => ⟨g, 0, none⟩) row.length off) ∧ ∃ n, w' = w.drewN n := by
  have hL := Lib.hid (Buffer_Len _ h)
  have h0 := h.c0
  have h1 := h.c1
  have hl := h.off_le
  have hm := h.len_le
  have hc := h.cap_le
  have hr := h.rd_cut off n
  have hr2 : (row.drop off).take n = (unread row len off).take n := by
    rw [unread_eq, List.take_take, show min n (len - off) = n by omega]
  rw [hr2] at hr
  have hu : n = ((unread row len off).take n).length := by
    rw [List.length_take, unread_length hm]
    omega
  have HS := Lib.hid (show Sl w (cutA (g.map fun g => ⟨g, 0, none⟩) row.length off) n ((unread row len off).take n) from ⟨hu, hr⟩)
  have hsl := fun W => run_cut_lh (P := Tryd.prog) 36 5 Tryd.underlying36 size5 (g.map fun g => ⟨g, 0, none⟩) len row.length W off (off + n) (by omega) (by omega)
  rw [show off + n - off = n by omega, Int.natCast_add] at hsl
  clear h hr hu hr2
  generalize (g.map fun g => (⟨g, 0, none⟩ : Addr)) = A at *
  generalize List.take n (unread row len off) = l at *
  generalize row.length = cap at *
  have hwr : IntKind.i64.wrap ((off : Int) + (n : Int)) = off + n := IntWalk.i64_in _ (by omega)
  go_enter Tryd.func18, Tryd.ntmps18
  go_wp2_with (go_at_call 27; refine (hL.out).mono ?_; rintro e w1 ⟨rfl, n1, rfl⟩)
  go_quiet (fail)
  go_wp2
  go_ret2
  exact ⟨_, _, _, rfl, HS.out, rfl, _, World.drewN_drewN _ _ _⟩
end

/-- What ChangePeek makes of a text. -/
def chg (l : List UInt8) (m n : Nat) (c : UInt8) : List UInt8 := if n < m then l.set n c else l

theorem impl_ChangePeek (l : List UInt8) (m n : Nat) (c : UInt8) (w : World) (a : Addr) (hE : Eof w a) (hl : l.length ≤ 9223372036854775807) (hm : m ≤ 65535) (hn : n ≤ 65535) :
    Calls Tryd.prog 8 #[.string ⟨l.toArray⟩, .int .u16 (m : Int), .int .u16 (n : Int), .int .u8 (c.toNat : Int)] w fun e w' => ∃ s, e = .returned (.string ⟨s.toArray⟩) ∧ Hid (s = chg l m n c) ∧ Fr [] w w' := by
  go_enter Tryd.func8, Tryd.ntmps8
  go_wp2_with fail
  refine (NewBufferString _ _ (by omega)).mono ?_
  rintro e w1 ⟨b, g, pad, rfl, hB, hf, hb, hg⟩
  obtain ⟨hgb, hR⟩ := hB.some_ g rfl
  by_cases hd : l.length - 0 < m
  · go_wp2_with fail
    refine (Buffer_Peek_eof _ hB a (hE.fr hf (by simp)) m hd).mono ?_
    rintro e w2 ⟨A, k, c2, rfl, hS, H2, k2, rfl⟩
    have hA := H2.out
    simp only [cutA_zero, Option.map_some] at hA
    subst hA
    have hm : k = l.length := by have := hS.1; rw [unread_pad] at this; simpa using this
    clear hS H2
    subst hm
    by_cases h : n < l.length
    · have hc := hR.cell n
      rw [List.getElem?_append_left h, List.getElem?_eq_getElem h] at hc
      have hz := hR.frozen (i := n) (by simp; omega)
      simp only [Option.map_some, bv] at hc
      go_wp2_with fail
      refine (Buffer_String _ ((hB.drewN k2).setRow n c)).mono ?_
      rintro e w3 ⟨s, rfl, H3, k3, rfl⟩
      rw [unread_set _ _ _ _ h] at H3
      go_wp2_with fail
      go_ret
      refine ⟨_, rfl, ?_, ((hf.drewN _).setCell (p := ⟨g, n, none⟩) (.inr hg) _).drewN _⟩
      show s = _
      rw [chg, if_pos (by omega)]
      exact H3.out
    · go_wp2_with fail
      refine (Buffer_String _ (hB.drewN k2)).mono ?_
      rintro e w3 ⟨s, rfl, H3, k3, rfl⟩
      go_wp2_with fail
      go_ret
      refine ⟨_, rfl, ?_, (hf.drewN _)⟩
      show s = _
      rw [H3.out, unread_pad, chg, List.set_eq_of_length_le (by omega)]
      simp
  · go_wp2_with fail
    refine (Buffer_Peek_ok _ hB m (by omega)).mono ?_
    rintro e w2 ⟨A, k, c2, rfl, hS, H2, k2, rfl⟩
    have hA := H2.out
    simp only [cutA_zero, Option.map_some] at hA
    subst hA
    have hm : k = m := by have := hS.1; rw [unread_pad] at this; simp at this; omega
    clear hS H2
    subst hm
    by_cases h : n < k
    · have hc := hR.cell n
      rw [List.getElem?_append_left (by omega), List.getElem?_eq_getElem (by omega)] at hc
      have hz := hR.frozen (i := n) (by simp; omega)
      simp only [Option.map_some, bv] at hc
      go_wp2_with fail
      refine (Buffer_String _ ((hB.drewN k2).setRow n c)).mono ?_
      rintro e w3 ⟨s, rfl, H3, k3, rfl⟩
      rw [unread_set _ _ _ _ (by omega)] at H3
      go_wp2_with fail
      go_ret
      refine ⟨_, rfl, ?_, ((hf.drewN _).setCell (p := ⟨g, n, none⟩) (.inr hg) _).drewN _⟩
      show s = _
      rw [chg, if_pos h]
      exact H3.out
    · go_wp2_with fail
      refine (Buffer_String _ (hB.drewN k2)).mono ?_
      rintro e w3 ⟨s, rfl, H3, k3, rfl⟩
      go_wp2_with fail
      go_ret
      refine ⟨_, rfl, ?_, (hf.drewN _)⟩
      show s = _
      rw [H3.out, unread_pad, chg, if_neg h]
      rfl

theorem FnExactChangePeek_walk (l : List UInt8) (m n : Nat) (c : UInt8) (w : World) (a : Addr) (hE : Eof w a) (hl : l.length ≤ 9223372036854775807) (hm : m ≤ 65535) (hn : n ≤ 65535) :
    Calls Tryd.prog 3 #[.string ⟨l.toArray⟩, .int .u16 (m : Int), .int .u16 (n : Int), .int .u8 (c.toNat : Int)] w fun e w' => e = .returned (.bool true) ∧ Below w.heap.size w w' := by
  go_enter Tryd.func3, Tryd.ntmps3
  go_wp2_with fail
  refine (impl_ChangePeek l m n c w a hE hl hm hn).mono ?_
  rintro e w1 ⟨s, rfl, H1, hf⟩
  go_wp2_with fail
  by_cases h : n < l.length ∧ n < m
  · refine (spec_Changed_yes l n _ c w1 hl h.1 h.2).mono ?_
    rintro e w2 ⟨s2, rfl, H2, hf2⟩
    go_wp2_with fail
    go_ret
    exact ⟨ret_true (by rw [H1.out, H2.out, chg, if_pos h.2]; simp), (hf.trans hf2).below (Nat.le_refl _) (by simp)⟩
  · refine (spec_Changed_no l n _ c w1 hl (by omega)).mono ?_
    rintro e w2 ⟨rfl, rfl⟩
    go_wp2_with fail
    go_ret
    refine ⟨ret_true ?_, hf.below (Nat.le_refl _) (by simp)⟩
    rw [H1.out, chg]
    split
    · rw [List.set_eq_of_length_le (by omega)]
      simp
    · simp

end Go.Proofs.YtpfhpoggollblaaDoor
