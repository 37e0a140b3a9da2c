/- Lines: reading up to a delimiter. -/
import Derived.Test.YtgjaeggpaomoaaaDoorRead
import Derived.Shelf.Bytes.SlIndexAt
namespace Go.Proofs.YtgjaeggpaomoaaaDoor
open Go.RowKit
set_option linter.unusedVariables false
attribute [local go_sem ↓] Go.wp_at_zero Go.wp_at_succ

theorem indexByte_eq (c : UInt8) : ∀ l : List UInt8, Lib.indexByte l c = if l.idxOf c < l.length then (l.idxOf c : Int) else -1
  | [] => rfl
  | x :: l => by
    rw [Lib.indexByte, indexByte_eq c l, List.idxOf_cons]
    by_cases hx : x == c
    · simp [hx]
    · have hx' : (x == c) = false := by simpa using hx
      rw [hx']
      simp only [Bool.false_eq_true, if_false, cond_false, List.length_cons]
      by_cases hl : l.idxOf c < l.length
      · have : ((l.idxOf c : Int) == -1) = false := by simp
        simp [hl, this]
      · have h2 : ¬ (l.idxOf c + 1 < l.length + 1) := by omega
        simp [hl, h2]
theorem bytesOf_toNat : ∀ l : List UInt8, Lib.bytesOf (l.map fun x => (x.toNat : Int)) = l
  | [] => rfl
  | x :: l => by
    have := bytesOf_toNat l
    simp [Lib.bytesOf] at this ⊢
    exact this
/-- The place of a byte, or -1. -/
def idxI (l : List UInt8) (x : UInt8) : Int := if l.idxOf x < l.length then (l.idxOf x : Int) else -1
theorem idxI_some {l : List UInt8} {x : UInt8} (h : l.idxOf x < l.length) : idxI l x = (l.idxOf x : Int) := by simp [idxI, h]
theorem idxI_none {l : List UInt8} {x : UInt8} (h : ¬ l.idxOf x < l.length) : idxI l x = -1 := by simp [idxI, h]

theorem run_indexByte_sl {P : Program} {w : World} {A : Option Addr} {n : Nat} {l : List UInt8} (h : Sl w A n l) (c : Nat) (x : UInt8) :
    (Extern.BytealgIndexByte.indexByte #[.slice A n c, .int .u8 (x.toNat : Int)]).run P w = .ok (.int .i64 (idxI l x)) w := by
  unfold idxI
  rw [← indexByte_eq]
  cases A with
  | none =>
    have : l = [] := by
      cases l with
      | nil => rfl
      | cons y t => obtain ⟨ad, e, _⟩ := h.2 0 (by simp); cases e
    subst this
    exact Lib.run_indexByteNil w n c _
  | some ad =>
    have := Lib.run_indexByteAt (P := P) w ad n c (l.map fun x => (x.toNat : Int)) (by simp [h.1]) (fun i hi => by
      obtain ⟨ad', e, hc⟩ := h.2 i (by have := h.1; omega)
      cases e
      rw [hc]
      have hil : i < l.length := by have := h.1; omega
      simp [bv, List.getD, hil]) (x.toNat : Int)
    rw [bytesOf_toNat] at this
    simpa using this

set_option maxRecDepth 100000 in
theorem bytes_IndexByte (A : Option Addr) (n c : Nat) (l : List UInt8) (x : UInt8) (w : World) (h : Sl w A n l) :
    Calls Tryd.prog 92 #[.slice A n c, .int .u8 (x.toNat : Int)] w fun e w' => e = .returned (.int .i64 (idxI l x)) ∧ w' = w := by
  have hr := run_indexByte_sl (P := Tryd.prog) h c x
  clear h
  go_enter Tryd.func92, Tryd.ntmps92
  go_wp2
  rw [run_callFunc_extern Tryd.func99 (by kernel_rfl) (by kernel_rfl) (by kernel_rfl) (e := Extern.BytealgIndexByte.indexByte) (by kernel_rfl), hr]
  simp only [Result.andThen]
  rw [Oper.upon_value]
  go_wp2
  go_ret
  exact ⟨rfl, rfl⟩

theorem infoB : (Tryd.prog.info? 5).map (fun i => (i.zero, i.size, i.bytes)) = some (some (.int .u8 0), 1, 1) := by kernel_rfl

section
variable {b : Nat} {g : Option Nat} {row : List UInt8} {len off : Nat} {lr : Int} (w : World) (h : Buf w b g row len off lr)
include h
theorem Buf.cut_ne (o : Nat) : ∀ ad, cutA (g.map fun g => (⟨g, 0, none⟩ : Addr)) row.length o = some ad → ad.block ≠ b := by
  intro ad e
  cases hg : g with
  | none => subst hg; simp [cutA] at e
  | some gx =>
    subst hg
    have := (h.some_ gx rfl).1
    unfold cutA at e
    split at e
    · simp at e; subst e; exact this
    · simp at e; subst e; rw [block_add]; exact this
set_option maxRecDepth 100000 in
theorem Buffer_readSlice_some (x : UInt8) (hx : (unread row len off).idxOf x < (unread row len off).length) : Calls Tryd.prog 77 #[.pointer (some ⟨b, 0, none⟩), .int .u8 (x.toNat : Int)] w fun e w' => ∃ A m c off', e = .returned (.tuple #[.slice A m c, .nilIface]) ∧ Sl w' A m ((unread row len off).take ((unread row len off).idxOf x + 1)) ∧ Hid (off' = off + (unread row len off).idxOf x + 1 ∧ A = cutA (g.map fun g => ⟨g, 0, none⟩) row.length off) ∧ Buf w' b g row len off' (-1) ∧ Fr [b] w w' := by
  have hlen := unread_length (off := off) h.len_le
  have hl := h.off_le
  have hm := h.len_le
  have hc := h.cap_le
  have hB := Lib.hid h
  have c0 := h.c0
  have c1 := h.c1
  have c2 := h.c2
  have f1 := h.fz 1
  have f2 := h.fz 2
  have hr := h.rd_cut off (len - off)
  rw [← unread_eq] at hr
  have hS : Sl w (cutA (g.map fun g => ⟨g, 0, none⟩) row.length off) (len - off) (unread row len off) := ⟨hlen.symm, hr⟩
  have hI := Lib.hid (fun k => bytes_IndexByte _ _ (row.length - off) _ x (w.drewN k) (hS.drewN k))
  rw [idxI_some hx] at hI
  have hS2 : Sl w (cutA (g.map fun g => ⟨g, 0, none⟩) row.length off) ((unread row len off).idxOf x + 1) ((unread row len off).take ((unread row len off).idxOf x + 1)) := by
    refine ⟨by rw [List.length_take]; omega, ?_⟩
    have := h.rd_cut off ((unread row len off).idxOf x + 1)
    rw [show (unread row len off).take ((unread row len off).idxOf x + 1) = (row.drop off).take ((unread row len off).idxOf x + 1) by
      conv => lhs; rw [unread_eq]
      rw [List.take_take, ← unread_eq, show min ((unread row len off).idxOf x + 1) (len - off) = (unread row len off).idxOf x + 1 by omega]]
    exact this
  have HS2 := Lib.hid hS2
  have hi : (unread row len off).idxOf x < len - off := by omega
  have HN := Lib.hid (Buf.cut_ne _ h off)
  clear h hS hr hS2
  generalize hi' : (unread row len off).idxOf x = i at *
  generalize hA : (g.map fun g => (⟨g, 0, none⟩ : Addr)) = A at *
  generalize List.take (i + 1) (unread row len off) = l2 at *
  have hsl := fun W => run_cut_l (P := Tryd.prog) 22 5 Tryd.underlying22 size5 A len row.length W off hl
  have hsl2 := fun W => run_cut_lh (P := Tryd.prog) 22 5 Tryd.underlying22 size5 A len row.length W off (off + i + 1) (by omega) (by omega)
  rw [show off + i + 1 - off = i + 1 by omega, Int.natCast_add, Int.natCast_add, Int.natCast_one] at hsl2
  clear hx hlen hi' hA
  generalize hcap : row.length = cap at *
  have HC := Lib.hid hcap
  clear hcap
  go_enter Tryd.func77, Tryd.ntmps77
  go_wp2_with fail
  go_quiet ((go_at_call 92; exact Calls.quiet_of_same (by exact hI.out _)))
  go_wp2_with fail
  go_quiet (fail)
  go_wp2
  go_ret2
  have hf := fun n => (((Fr.refl [b] w).drewN n).setCell (p := ⟨b, 1, none⟩) (.inl (by simp)) (.int .i64 ((off + i + 1 : Nat) : Int))).setCell (p := ⟨b, 2, none⟩) (.inl (by simp)) (.int .i8 (-1))
  simp only [Int.natCast_add, Int.natCast_one] at hf
  refine ⟨_, _, _, off + i + 1, rfl, HS2.out.fr (hf _) (fun ad e => by simpa using HN.out ad e), ⟨rfl, rfl⟩, ?_, hf _⟩
  have := fun n => ((hB.out.drewN n).set1 (off + i + 1) (by omega)).set2 (-1)
  simp only [Int.natCast_add, Int.natCast_one] at this
  exact this _

set_option maxRecDepth 100000 in
theorem Buffer_readSlice_none (x : UInt8) (hx : ¬ (unread row len off).idxOf x < (unread row len off).length) (a : Addr) (hE : Eof w a) : Calls Tryd.prog 77 #[.pointer (some ⟨b, 0, none⟩), .int .u8 (x.toNat : Int)] w fun e w' => ∃ A m c, e = .returned (.tuple #[.slice A m c, .iface 137 (.pointer (some a))]) ∧ Sl w' A m (unread row len off) ∧ Hid (A = cutA (g.map fun g => ⟨g, 0, none⟩) row.length off) ∧ Buf w' b g row len len (-1) ∧ Fr [b] w w' := by
  have hlen := unread_length (off := off) h.len_le
  have hl := h.off_le
  have hm := h.len_le
  have hc := h.cap_le
  have hB := Lib.hid h
  have c0 := h.c0
  have c1 := h.c1
  have c2 := h.c2
  have f1 := h.fz 1
  have f2 := h.fz 2
  have hr := h.rd_cut off (len - off)
  rw [← unread_eq] at hr
  have hS : Sl w (cutA (g.map fun g => ⟨g, 0, none⟩) row.length off) (len - off) (unread row len off) := ⟨hlen.symm, hr⟩
  have hI := Lib.hid (fun k => bytes_IndexByte _ _ (row.length - off) _ x (w.drewN k) (hS.drewN k))
  rw [idxI_none hx] at hI
  have HS2 := Lib.hid hS
  have HN := Lib.hid (Buf.cut_ne _ h off)
  unfold Eof at hE
  clear h hS hr
  generalize hA : (g.map fun g => (⟨g, 0, none⟩ : Addr)) = A at *
  generalize unread row len off = l2 at *
  have hsl := fun W => run_cut_l (P := Tryd.prog) 22 5 Tryd.underlying22 size5 A len row.length W off hl
  have hsl2 := fun W => run_cut_lh (P := Tryd.prog) 22 5 Tryd.underlying22 size5 A len row.length W off len hl hm
  clear hx hlen hA
  generalize hcap : row.length = cap at *
  have HC := Lib.hid hcap
  clear hcap
  go_enter Tryd.func77, Tryd.ntmps77
  go_wp2_with fail
  go_quiet ((go_at_call 92; exact Calls.quiet_of_same (by exact hI.out _)))
  go_wp2_with fail
  go_quiet (fail)
  go_wp2
  go_ret2
  have hf := fun n => (((Fr.refl [b] w).drewN n).setCell (p := ⟨b, 1, none⟩) (.inl (by simp)) (.int .i64 (len : Int))).setCell (p := ⟨b, 2, none⟩) (.inl (by simp)) (.int .i8 (-1))
  exact ⟨_, _, _, rfl, HS2.out.fr (hf _) (fun ad e => by simpa using HN.out ad e), rfl, ((hB.out.drewN _).set1 len (by omega)).set2 (-1), hf _⟩

/-- The line that a read up to a byte returns, and what it leaves. -/
def line (l : List UInt8) (x : UInt8) : List UInt8 := l.take (l.idxOf x + 1)
def rest (l : List UInt8) (x : UInt8) : List UInt8 := l.drop (l.idxOf x + 1)
def misses (l : List UInt8) (x : UInt8) : Bool := !decide (l.idxOf x < l.length)

theorem Buffer_readSlice (x : UInt8) (a : Addr) (hE : Eof w a) : Calls Tryd.prog 77 #[.pointer (some ⟨b, 0, none⟩), .int .u8 (x.toNat : Int)] w fun e w' => ∃ A m c off' eo, e = .returned (.tuple #[.slice A m c, ev a eo]) ∧ Sl w' A m (line (unread row len off) x) ∧ Hid (eo = misses (unread row len off) x ∧ unread row len off' = rest (unread row len off) x) ∧ Buf w' b g row len off' (-1) ∧ Fr [b] w w' := by
  have hlen := unread_length (off := off) h.len_le
  by_cases hx : (unread row len off).idxOf x < (unread row len off).length
  · refine (Buffer_readSlice_some w h x hx).mono ?_
    rintro e w' ⟨A, m, c, off', rfl, hS, H, hB, hf⟩
    refine ⟨A, m, c, off', false, rfl, hS, ⟨by simp [misses, hx], ?_⟩, hB, hf⟩
    rw [H.out.1]
    simp [unread, rest, List.drop_drop, Nat.add_assoc]
  · refine (Buffer_readSlice_none w h x hx a hE).mono ?_
    rintro e w' ⟨A, m, c, rfl, hS, H, hB, hf⟩
    refine ⟨A, m, c, len, true, rfl, ?_, ⟨by simp [misses]; omega, ?_⟩, hB, hf⟩
    · rw [line, List.take_of_length_le (by omega)]
      exact hS
    · rw [rest, List.drop_eq_nil_of_le (by omega)]
      simp [unread]

theorem Buffer_ReadString (x : UInt8) (a : Addr) (hE : Eof w a) : Calls Tryd.prog 55 #[.pointer (some ⟨b, 0, none⟩), .int .u8 (x.toNat : Int)] w fun e w' => ∃ s off' eo, e = .returned (.tuple #[.string ⟨s.toArray⟩, ev a eo]) ∧ Hid (s = line (unread row len off) x ∧ eo = misses (unread row len off) x ∧ unread row len off' = rest (unread row len off) x) ∧ Buf w' b g row len off' (-1) ∧ Fr [b] w w' := by
  have hR := Lib.hid (Buffer_readSlice w h x a hE)
  clear h
  generalize hl : line (unread row len off) x = l at *
  have HL := Lib.hid hl
  clear hl
  go_enter Tryd.func55, Tryd.ntmps55
  go_wp2_with fail
  refine hR.out.mono ?_
  rintro e w1 ⟨A, m, c, off', eo, rfl, hS, H, hB, hf⟩
  have hst := run_string_sl (P := Tryd.prog) hS 22 9 5 c Tryd.underlying22 Tryd.underlying5 Tryd.underlying9
  go_wp2_with fail
  go_ret2
  exact ⟨l, off', eo, rfl, ⟨rfl, H.out.1, H.out.2⟩, hB, hf⟩


set_option maxRecDepth 100000 in
theorem Buffer_ReadBytes (x : UInt8) (a : Addr) (hE : Eof w a) (hs : len - off ≤ 1048576) : Calls Tryd.prog 54 #[.pointer (some ⟨b, 0, none⟩), .int .u8 (x.toNat : Int)] w fun e w' => ∃ A m c s off' eo, e = .returned (.tuple #[.slice A m c, ev a eo]) ∧ Sl w' A m s ∧ Hid (s = line (unread row len off) x ∧ eo = misses (unread row len off) x ∧ unread row len off' = rest (unread row len off) x) ∧ Buf w' b g row len off' (-1) ∧ Fr [b] w w' := by
  have hR := Lib.hid (Buffer_readSlice w h x a hE)
  have hll : (line (unread row len off) x).length ≤ 1048576 := by
    have := unread_length (off := off) h.len_le
    rw [line, List.length_take]
    omega
  clear h
  generalize hl : line (unread row len off) x = l at *
  have HL := Lib.hid hl
  clear hl
  go_enter Tryd.func54, Tryd.ntmps54
  go_wp2_with fail
  refine hR.out.mono ?_
  rintro e w1 ⟨A, m, c, off', eo, rfl, hS, H, hB, hf⟩
  have hm := hS.1
  obtain ⟨v', w', hrun, ho', hg', hb'⟩ := run_app (P := Tryd.prog) w1 w1.heap.size 22 22 22 5 _ 1 1 Tryd.underlying22 infoB rfl (by decide) _ 0 [] (World.ownsRow_nil w1 w1.heap.size 5 1) _ m _
    (hS.src Tryd.underlying22 c) (by omega) (by omega) (Nat.le_refl _)
  rw [List.nil_append, Nat.zero_add] at ho'
  clear hm
  obtain ⟨A', c', rfl⟩ := own_form ho'
  have hf' := Fr.of_grown hg'
  go_wp2_with (at_builtin; refine wpList_append_run rfl _ _ _ _ rfl rfl rfl hrun ?_)
  go_ret2
  exact ⟨_, _, _, l, off', eo, rfl, own_sl ho', ⟨rfl, H.out.1, H.out.2⟩, hB.fr hf' (by simp [Value.ownBlock]) (by simp [Value.ownBlock]), hf.trans_of hf' (by simp [Value.ownBlock])⟩
end

end Go.Proofs.YtgjaeggpaomoaaaDoor
