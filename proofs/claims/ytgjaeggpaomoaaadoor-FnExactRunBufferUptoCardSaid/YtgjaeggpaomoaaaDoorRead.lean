/- Contracts of the reading functions of bytes.Buffer. -/
import Derived.Test.YtgjaeggpaomoaaaDoorEof
import Derived.Test.YtgjaeggpaomoaaaDoorCopy
namespace Go.Proofs.YtgjaeggpaomoaaaDoor
open Go.RowKit
set_option linter.unusedVariables false
attribute [local go_sem ↓] Go.wp_at_zero Go.wp_at_succ

/-- No error, or io.EOF. -/
def ev (a : Addr) (e : Bool) : Value := if e then .iface 137 (.pointer (some a)) else .nilIface

section
variable {b : Nat} {g : Option Nat} {row : List UInt8} {len off : Nat} {lr : Int} (w : World) (h : Buf w b g row len off lr)
include h
theorem Buffer_empty : Calls Tryd.prog 76 #[.pointer (some ⟨b, 0, none⟩)] w fun e w' => e = .returned (.bool (decide (len ≤ off))) ∧ ∃ n, w' = w.drewN n := by
  have h0 := h.c0
  have h1 := h.c1
  have hl := h.off_le
  have hm := h.len_le
  have hc := h.cap_le
  clear h
  generalize (g.map fun g => (⟨g, 0, none⟩ : Addr)) = A at *
  generalize row.length = cap at *
  go_enter Tryd.func76, Tryd.ntmps76
  go_wp2
  go_quiet (fail)
  go_wp2
  go_ret
  exact ⟨rfl, _, rfl⟩
theorem Buffer_Reset_r : Calls Tryd.prog 61 #[.pointer (some ⟨b, 0, none⟩)] w fun e w' => e = .returned (.tuple #[]) ∧ Buf w' b g row 0 0 0 ∧ Fr [b] w w' := by
  have hB := Lib.hid h
  have c0 := h.c0
  have c1 := h.c1
  have c2 := h.c2
  have f0 := h.fz 0
  have f1 := h.fz 1
  have f2 := h.fz 2
  clear h
  generalize hA : (g.map fun g => (⟨g, 0, none⟩ : Addr)) = A at *
  have HA := Lib.hid hA
  clear hA
  have hsl := fun W => run_cut_h (P := Tryd.prog) 22 5 Tryd.underlying22 size5 A len row.length W 0 (Nat.zero_le _)
  simp only [Int.natCast_zero] at hsl
  go_enter Tryd.func61, Tryd.ntmps61
  go_wp2
  go_end0
  have hf := hB.out.reset
  rw [HA.out] at hf
  exact ⟨rfl, hf, (((Fr.refl [b] w).setCell (.inl (by simp)) _).setCell (.inl (by simp)) _).setCell (.inl (by simp)) _⟩

theorem Buffer_Read_empty (he : len = off) (A : Option Addr) (c : Nat) : Calls Tryd.prog 50 #[.pointer (some ⟨b, 0, none⟩), .slice A 0 c] w fun e w' => e = .returned (.tuple #[.int .i64 0, .nilIface]) ∧ Buf w' b g row 0 0 0 ∧ Fr [b] w w' := by
  have hb : decide (len ≤ off) = true := by simp; omega
  have hB := Lib.hid h
  have c2 := h.c2
  have f2 := h.fz 2
  have HE := Lib.hid he
  clear h he
  go_enter Tryd.func50, Tryd.ntmps50
  go_wp2_with fail
  refine (Buffer_empty _ (hB.out.set2 0)).mono ?_
  rintro e w1 ⟨rfl, n1, rfl⟩
  go_wp2_with fail
  refine (Buffer_Reset_r _ ((hB.out.set2 0).drewN _)).mono ?_
  rintro e w2 ⟨rfl, hB2, hf2⟩
  go_wp2_with fail
  go_ret2
  exact ⟨rfl, hB2, (((Fr.refl [b] w).setCell (.inl (by simp)) _).drewN _).trans hf2⟩

theorem Buffer_Read_eof (he : len = off) (A : Option Addr) (n c : Nat) (hn : 0 < n) (a : Addr) (hE : Eof w a) (hEb : b ≠ 1) : Calls Tryd.prog 50 #[.pointer (some ⟨b, 0, none⟩), .slice A n c] w fun e w' => e = .returned (.tuple #[.int .i64 0, .iface 137 (.pointer (some a))]) ∧ Buf w' b g row 0 0 0 ∧ Fr [b] w w' := by
  have hb : decide (len ≤ off) = true := by simp; omega
  have hnb : ((n : Int) == 0) = false := by simp; omega
  have hB := Lib.hid h
  have c2 := h.c2
  have f2 := h.fz 2
  have HE := Lib.hid he
  have HEE := Lib.hid hE
  clear h he hE
  go_enter Tryd.func50, Tryd.ntmps50
  go_wp2_with fail
  refine (Buffer_empty _ (hB.out.set2 0)).mono ?_
  rintro e w1 ⟨rfl, n1, rfl⟩
  go_wp2_with fail
  refine (Buffer_Reset_r _ ((hB.out.set2 0).drewN _)).mono ?_
  rintro e w2 ⟨rfl, hB2, hf2⟩
  have hf := (((Fr.refl [b] w).setCell (p := ⟨b, 2, none⟩) (.inl (by simp)) (.int .i8 0)).drewN n1).trans hf2
  have hE2 := HEE.out.fr hf (by simpa using Ne.symm hEb)
  unfold Eof at hE2
  go_wp2_with fail
  go_quiet (fail)
  go_wp2
  go_ret2
  exact ⟨rfl, hB2.drewN _, hf.drewN _⟩

set_option maxRecDepth 100000 in
theorem Buffer_Read_some (he : off < len) (gp : Nat) (rp : List UInt8) (hR : Row w gp rp) (hpb : gp ≠ b) (hpg : g ≠ some gp) (hpl : rp.length ≤ 9223372036854775807) : Calls Tryd.prog 50 #[.pointer (some ⟨b, 0, none⟩), .slice (some ⟨gp, 0, none⟩) rp.length rp.length] w fun e w' => ∃ m lr', e = .returned (.tuple #[.int .i64 (m : Nat), .nilIface]) ∧ Hid (m = min (len - off) rp.length ∧ lr' = if m = 0 then 0 else -1) ∧ Row w' gp (over rp 0 ((unread row len off).take rp.length)) ∧ Buf w' b g row len (off + m) lr' ∧ Fr [b, gp] w w' := by
  have hb : decide (len ≤ off) = false := by simp; omega
  have hB := Lib.hid h
  have HR := Lib.hid hR
  have c0 := h.c0
  have c1 := h.c1
  have c2 := h.c2
  have f1 := h.fz 1
  have f2 := h.fz 2
  have hl := h.off_le
  have hm := h.len_le
  have hc := h.cap_le
  clear h hR
  have hsl := fun W => run_cut_l (P := Tryd.prog) 22 5 Tryd.underlying22 size5 (g.map fun g => ⟨g, 0, none⟩) len row.length W off hl
  go_enter Tryd.func50, Tryd.ntmps50
  go_wp2_with fail
  refine (Buffer_empty _ (hB.out.set2 0)).mono ?_
  rintro e w1 ⟨rfl, n1, rfl⟩
  have hS : Sl ((w.setCell ⟨b, 2, none⟩ (.int .i8 0)).drewN (n1 + 1)) (cutA (g.map fun g => ⟨g, 0, none⟩) row.length off) (len - off) (unread row len off) := by
    refine ⟨(unread_length hm).symm, ?_⟩
    have := ((hB.out.set2 0).drewN (n1 + 1)).rd_cut off (len - off)
    rw [← unread_eq] at this
    exact this
  have hR1 := ((HR.out.far (p := ⟨b, 2, none⟩) (by simpa using Ne.symm hpb) (.int .i8 0)).drewN (n1 + 1))
  have hcp := run_copy_sl (P := Tryd.prog) hR1 hS 22 22 3 Tryd.underlying22 size5 0 rp.length rp.length (row.length - off) (by omega)
  rw [cutA_zero] at hcp
  have hR2 := row_setCells hR1 0 ((unread row len off).take rp.length) (by simp; omega)
  have hf2 := fr_setCells gp (((unread row len off).take rp.length).map bv) 0 ((w.setCell ⟨b, 2, none⟩ (.int .i8 0)).drewN (n1 + 1))
  have hB2 := ((hB.out.set2 0).drewN (n1 + 1)).fr hf2 (by simpa using Ne.symm hpb) (fun x hx => by subst hx; simpa using fun e => hpg (by rw [e]))
  have hfA := ((((Fr.refl [b, gp] w).setCell (p := ⟨b, 2, none⟩) (.inl (by simp)) (.int .i8 0)).drewN (n1 + 1)).trans_of hf2 (by simp))
  clear hS hR1
  generalize (((w.setCell ⟨b, 2, none⟩ (.int .i8 0)).drewN (n1 + 1)).setCells gp 0 (((unread row len off).take rp.length).map bv)) = W2 at *
  obtain ⟨m, hmm⟩ : ∃ m, min (len - off) rp.length = m := ⟨_, rfl⟩
  rw [hmm] at hcp
  have hm1 : m ≤ len - off := by omega
  have hm2 : m ≤ rp.length := by omega
  have HM := Lib.hid hmm
  clear hmm
  have HB := Lib.hid hB2
  have HF := Lib.hid hfA
  have HR2 := Lib.hid hR2
  have d1 := hB2.c1
  have d2 := hB2.c2
  have e1 := hB2.fz 1
  have e2 := hB2.fz 2
  clear hB2 hfA hR2 hf2
  go_wp2_with fail
  go_region
  by_cases h0 : m = 0
  · have h0' : decide (0 < (m : Int)) = false := by simp; omega
    have h0'' : ((m : Int) == 0) = true := by simp; omega
    go_wp2
    go_ret2
    refine ⟨m, 0, by simp [h0], ⟨HM.out.symm, by simp [h0]⟩, HR2.out.far (by simpa using Ne.symm hpb) _, by have := HB.out.set1 (off + m) (by omega); simpa [h0] using this, HF.out.setCell (.inl (by simp)) _⟩
  · go_wp2
    go_ret2
    have := (HB.out.set1 (off + m) (by omega)).set2 (-1)
    refine ⟨m, _, rfl, ⟨HM.out.symm, by rw [if_neg h0]⟩, (HR2.out.far (by simpa using Ne.symm hpb) _).far (by simpa using Ne.symm hpb) _, by simpa using this, (HF.out.setCell (.inl (by simp)) _).setCell (.inl (by simp)) _⟩

/-- Read into a row of its own: what was unread, its head. -/
theorem Buffer_ReadL (gp : Nat) (rp : List UInt8) (hR : Row w gp rp) (hpb : gp ≠ b) (hpg : g ≠ some gp) (hpl : rp.length ≤ 9223372036854775807) (a : Addr) (hE : Eof w a) (hEb : b ≠ 1) :
    Calls Tryd.prog 50 #[.pointer (some ⟨b, 0, none⟩), .slice (some ⟨gp, 0, none⟩) rp.length rp.length] w fun e w' => ∃ m eo len' off' lr' x, e = .returned (.tuple #[.int .i64 (m : Nat), ev a eo]) ∧ m ≤ rp.length ∧ Sl w' (some ⟨gp, 0, none⟩) m x ∧ Buf w' b g row len' off' lr' ∧
      Hid (x = (unread row len off).take rp.length ∧ eo = ((unread row len off).isEmpty && decide (0 < rp.length)) ∧ unread row len' off' = (unread row len off).drop rp.length ∧ (len = off → len' = 0 ∧ off' = 0 ∧ lr' = 0) ∧ (off < len → len' = len ∧ off' = off + m ∧ lr' = if m = 0 then 0 else -1) ∧ m = min (len - off) rp.length) ∧ Fr [b, gp] w w' := by
  have hlen := unread_length (off := off) h.len_le
  have hol := h.off_le
  by_cases hlo : len = off
  · have hu : unread row len off = [] := List.eq_nil_of_length_eq_zero (by omega)
    by_cases hz : rp.length = 0
    · rw [hz]
      refine (Buffer_Read_empty w h hlo _ 0).mono ?_
      rintro e w' ⟨rfl, hB, hf⟩
      exact ⟨0, false, 0, 0, 0, [], rfl, Nat.zero_le _, ⟨rfl, Rd.nil _ _⟩, hB, ⟨by simp, by simp, by rw [hu]; simp [unread], fun _ => ⟨rfl, rfl, rfl⟩, fun h => absurd h (by omega), by omega⟩, hf.more (by simp)⟩
    · refine (Buffer_Read_eof w h hlo _ rp.length rp.length (by omega) a hE hEb).mono ?_
      rintro e w' ⟨rfl, hB, hf⟩
      refine ⟨0, true, 0, 0, 0, [], rfl, Nat.zero_le _, ⟨rfl, Rd.nil _ _⟩, hB, ⟨by simp [hu], by simp [hu]; omega, by rw [hu]; simp [unread], fun _ => ⟨rfl, rfl, rfl⟩, fun h => absurd h (by omega), by omega⟩, hf.more (by simp)⟩
  · refine (Buffer_Read_some w h (by omega) gp rp hR hpb hpg hpl).mono ?_
    rintro e w' ⟨m, lr', rfl, hm, hR', hB', hf⟩
    have hm' : m = min (len - off) rp.length := hm.out.1
    have hne : false = ((unread row len off).isEmpty && decide (0 < rp.length)) := by
      cases hu : unread row len off with
      | nil => rw [hu] at hlen; simp at hlen; omega
      | cons y t => simp
    have htl : ((unread row len off).take rp.length).length = m := by rw [List.length_take]; omega
    refine ⟨m, false, len, off + m, lr', (unread row len off).take rp.length, rfl, by omega, ?_, hB', ⟨rfl, hne, ?_, fun h => absurd h hlo, fun _ => ⟨rfl, rfl, hm.out.2⟩, hm'⟩, hf⟩
    · have := hR'.sl m (by rw [over_length _ _ _ (by omega)]; omega)
      rw [over_zero_take, List.take_append_of_le_length (by omega), List.take_of_length_le (by omega)] at this
      exact this
    · rw [show unread row len (off + m) = (unread row len off).drop m by simp [unread, List.drop_drop]]
      by_cases hle : rp.length ≤ len - off
      · rw [show m = rp.length by omega]
      · rw [List.drop_eq_nil_of_le (by omega), List.drop_eq_nil_of_le (by omega)]

theorem Buffer_Read (gp : Nat) (rp : List UInt8) (hR : Row w gp rp) (hpb : gp ≠ b) (hpg : g ≠ some gp) (hpl : rp.length ≤ 9223372036854775807) (a : Addr) (hE : Eof w a) (hEb : b ≠ 1) :
    Calls Tryd.prog 50 #[.pointer (some ⟨b, 0, none⟩), .slice (some ⟨gp, 0, none⟩) rp.length rp.length] w fun e w' => ∃ m eo len' off' lr' x, e = .returned (.tuple #[.int .i64 (m : Nat), ev a eo]) ∧ m ≤ rp.length ∧ Sl w' (some ⟨gp, 0, none⟩) m x ∧ Buf w' b g row len' off' lr' ∧
      Hid (x = (unread row len off).take rp.length ∧ eo = ((unread row len off).isEmpty && decide (0 < rp.length)) ∧ unread row len' off' = (unread row len off).drop rp.length) ∧ Fr [b, gp] w w' := by
  refine (Buffer_ReadL w h gp rp hR hpb hpg hpl a hE hEb).mono ?_
  rintro e w' ⟨m, eo, len', off', lr', x, rfl, h1, h2, h3, H, h4⟩
  exact ⟨m, eo, len', off', lr', x, rfl, h1, h2, h3, ⟨H.out.1, H.out.2.1, H.out.2.2.1⟩, h4⟩

theorem Buffer_ReadByte_eof (he : len = off) (a : Addr) (hE : Eof w a) (hEb : b ≠ 1) : Calls Tryd.prog 53 #[.pointer (some ⟨b, 0, none⟩)] w fun e w' => e = .returned (.tuple #[.int .u8 0, .iface 137 (.pointer (some a))]) ∧ Buf w' b g row 0 0 0 ∧ Fr [b] w w' := by
  have hb : decide (len ≤ off) = true := by simp; omega
  have hB := Lib.hid h
  have HE := Lib.hid he
  have HEE := Lib.hid hE
  clear h he hE
  go_enter Tryd.func53, Tryd.ntmps53
  go_wp2_with fail
  refine (Buffer_empty _ hB.out).mono ?_
  rintro e w1 ⟨rfl, n1, rfl⟩
  go_wp2_with fail
  refine (Buffer_Reset_r _ (hB.out.drewN _)).mono ?_
  rintro e w2 ⟨rfl, hB2, hf2⟩
  have hf := ((Fr.refl [b] w).drewN n1).trans hf2
  have hE2 := HEE.out.fr hf (by simpa using Ne.symm hEb)
  unfold Eof at hE2
  go_wp2_with fail
  go_quiet (fail)
  go_wp2
  go_ret2
  exact ⟨rfl, hB2.drewN _, hf.drewN _⟩

theorem Buffer_ReadByte_some (x : UInt8) (t : List UInt8) (hu : unread row len off = x :: t) : Calls Tryd.prog 53 #[.pointer (some ⟨b, 0, none⟩)] w fun e w' => e = .returned (.tuple #[.int .u8 (x.toNat : Int), .nilIface]) ∧ Buf w' b g row len (off + 1) (-1) ∧ Fr [b] w w' := by
  have hlen := unread_length (off := off) h.len_le
  rw [hu, List.length_cons] at hlen
  have hol := h.off_le
  have hm := h.len_le
  have hc := h.cap_le
  have hb : decide (len ≤ off) = false := by simp; omega
  have hB := Lib.hid h
  have c0 := h.c0
  have c1 := h.c1
  have c2 := h.c2
  have f1 := h.fz 1
  have f2 := h.fz 2
  obtain ⟨gx, rfl⟩ : ∃ gx, g = some gx := by
    cases hg : g with
    | some gx => exact ⟨gx, rfl⟩
    | none => have := h.none_ hg; rw [this] at hm; simp at hm; omega
  have hcx : w.cell? ⟨gx, off, none⟩ = some (.int .u8 (x.toNat : Int)) := by
    rw [(h.some_ gx rfl).2.cell]
    have : row[off]? = some x := by
      have h2 : (unread row len off)[0]? = some x := by rw [hu]; rfl
      rw [unread_eq, List.getElem?_take] at h2
      split at h2
      · simpa using h2
      · cases h2
    rw [this]
    rfl
  clear h
  simp only [Option.map_some] at c0
  generalize row.length = cap at *
  go_enter Tryd.func53, Tryd.ntmps53
  go_wp2_with fail
  refine (Buffer_empty _ hB.out).mono ?_
  rintro e w1 ⟨rfl, n1, rfl⟩
  go_wp2_with fail
  go_quiet (fail)
  go_wp2
  go_ret2
  refine ⟨rfl, ?_, ?_⟩
  · have := ((hB.out.drewN (n1 + nq)).set1 (off + 1) (by omega)).set2 (-1)
    simpa using this
  · exact (((Fr.refl [b] w).drewN _).setCell (.inl (by simp)) _).setCell (.inl (by simp)) _
end

end Go.Proofs.YtgjaeggpaomoaaaDoor
