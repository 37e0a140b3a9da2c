/- bytes.Buffer: code points are read; what was read is unread. -/
import Derived.Test.YtgjaeggpaomoaaaDoorShelf
namespace Go.Proofs.YtgjaeggpaomoaaaDoor
open Go.RowKit
set_option linter.unusedVariables false
attribute [local go_sem ↓] Go.wp_at_zero Go.wp_at_succ

theorem cutA_some (g cap off : Nat) (h : off < cap) : cutA (some ⟨g, 0, none⟩) cap off = some ⟨g, off, none⟩ := by
  unfold cutA
  rw [if_neg (by omega)]
  simp [Addr.add]
  omega
/-- What lies in the variable of the error that nothing can be unread. -/
def Unr (w : World) (a : Addr) : Prop := w.cell? ⟨2, 0, none⟩ = some (.iface 137 (.pointer (some a)))
theorem Unr.lt {w : World} {a : Addr} (h : Unr w a) : 2 < w.heap.size := block_lt_of_cell (a := ⟨2, 0, none⟩) h
theorem Unr.fr {S : List Nat} {w w' : World} {a : Addr} (h : Unr w a) (hf : Fr S w w') (hn : 2 ∉ S) : Unr w' a := (hf.cell (p := ⟨2, 0, none⟩) h.lt hn).trans h
theorem Unr.fr_old {S : List Nat} {w w' : World} {a : Addr} (h : Unr w a) (hf : Fr S w w') (hn : ∀ k ∈ S, w.heap.size ≤ k) : Unr w' a := h.fr hf (fun hs => by have := hn _ hs; have := h.lt; omega)

section
variable {b : Nat} {g : Option Nat} {row : List UInt8} {len off : Nat} {lr : Int} (w : World) (h : Buf w b g row len off lr)
include h

theorem Buffer_ReadRune_eof (he : len = off) (a : Addr) (hE : Eof w a) (hEb : b ≠ 1) : Calls Tryd.prog 56 #[.pointer (some ⟨b, 0, none⟩)] w fun e w' => e = .returned (.tuple #[.int .i32 0, .int .i64 0, .iface 137 (.pointer (some a))]) ∧ Buf w' b g row 0 0 0 ∧ Fr [b] w w' := by
  have hb : decide (len ≤ off) = true := by simp; omega
  have hB := Lib.hid h
  have HE := Lib.hid he
  have hE2 := Lib.hid hE
  clear h he
  go_enter Tryd.func56, Tryd.ntmps56
  go_wp2_with fail
  refine (Buffer_empty _ hB.out).mono ?_
  rintro e w1 ⟨rfl, n1, rfl⟩
  go_wp2_with fail
  refine (Buffer_Reset_r _ (hB.out.drewN _)).mono ?_
  rintro e w2 ⟨rfl, hB2, hf2⟩
  have hf := ((Fr.refl [b] w).drewN n1).trans hf2
  have hE3 := hE2.out.fr hf (by simpa using Ne.symm hEb)
  unfold Eof at hE3
  have HB2 := Lib.hid hB2
  clear hB2
  go_wp2_with fail
  go_quiet (fail)
  go_wp2
  go_ret3
  exact ⟨rfl, HB2.out.drewN _, hf.drewN _⟩

set_option maxRecDepth 100000 in
theorem Buffer_ReadRune_ascii (x : UInt8) (t : List UInt8) (hu : unread row len off = x :: t) (hx : x.toNat < 128) : Calls Tryd.prog 56 #[.pointer (some ⟨b, 0, none⟩)] w fun e w' => e = .returned (.tuple #[.int .i32 (x.toNat : Int), .int .i64 1, .nilIface]) ∧ Buf w' b g row len (off + 1) 1 ∧ Fr [b] w w' := by
  have hlen := unread_length (off := off) h.len_le
  rw [hu, List.length_cons] at hlen
  have hol := h.off_le
  have hm := h.len_le
  have hc := h.cap_le
  have hb : decide (len ≤ off) = false := by simp; omega
  have hB := Lib.hid h
  have c0 := h.c0
  have c1 := h.c1
  have c2 := h.c2
  have f1 := h.fz 1
  have f2 := h.fz 2
  obtain ⟨gx, rfl⟩ : ∃ gx, g = some gx := by
    cases hg : g with
    | some gx => exact ⟨gx, rfl⟩
    | none => have := h.none_ hg; rw [this] at hm; simp at hm; omega
  have hcx : w.cell? ⟨gx, off, none⟩ = some (.int .u8 (x.toNat : Int)) := by
    rw [(h.some_ gx rfl).2.cell]
    have : row[off]? = some x := by
      have h2 : (unread row len off)[0]? = some x := by rw [hu]; rfl
      rw [unread_eq, List.getElem?_take] at h2
      split at h2
      · simpa using h2
      · cases h2
    rw [this]
    rfl
  clear h
  simp only [Option.map_some] at c0
  generalize row.length = cap at *
  go_enter Tryd.func56, Tryd.ntmps56
  go_wp2_with fail
  refine (Buffer_empty _ hB.out).mono ?_
  rintro e w1 ⟨rfl, n1, rfl⟩
  go_wp2_with fail
  go_quiet (fail)
  go_wp2
  go_ret3
  refine ⟨rfl, ?_, ?_⟩
  · have := ((hB.out.drewN (n1 + nq)).set1 (off + 1) (by omega)).set2 1
    simpa using this
  · exact (((Fr.refl [b] w).drewN _).setCell (.inl (by simp)) _).setCell (.inl (by simp)) _

set_option maxHeartbeats 1600000 in
set_option maxRecDepth 100000 in
theorem Buffer_ReadRune_other (x : UInt8) (t : List UInt8) (hu : unread row len off = x :: t) (hx : ¬ x.toNat < 128) (hT : Tabs w) : Calls Tryd.prog 56 #[.pointer (some ⟨b, 0, none⟩)] w fun e w' => ∃ r k : Nat, e = .returned (.tuple #[.int .i32 (r : Int), .int .i64 (k : Int), .nilIface]) ∧ Hid ((r, k) = dec (x :: t)) ∧ Buf w' b g row len (off + k) (k : Int) ∧ Fr [b] w w' := by
  have hlen := unread_length (off := off) h.len_le
  rw [hu, List.length_cons] at hlen
  have hol := h.off_le
  have hm := h.len_le
  have hc := h.cap_le
  have hb : decide (len ≤ off) = false := by simp; omega
  have hB := Lib.hid h
  have c0 := h.c0
  have c1 := h.c1
  have c2 := h.c2
  have f1 := h.fz 1
  have f2 := h.fz 2
  obtain ⟨gx, rfl⟩ : ∃ gx, g = some gx := by
    cases hg : g with
    | some gx => exact ⟨gx, rfl⟩
    | none => have := h.none_ hg; rw [this] at hm; simp at hm; omega
  have hR := (h.some_ gx rfl).2
  have hcx : w.cell? ⟨gx, off, none⟩ = some (.int .u8 (x.toNat : Int)) := by
    rw [hR.cell]
    have : row[off]? = some x := by
      have h2 : (unread row len off)[0]? = some x := by rw [hu]; rfl
      rw [unread_eq, List.getElem?_take] at h2
      split at h2
      · simpa using h2
      · cases h2
    rw [this]
    rfl
  have hsz := dec_size (x :: t) (by simp)
  simp only [List.length_cons] at hsz
  have hsl := fun W => run_cut_l (P := Tryd.prog) 22 5 Tryd.underlying22 size5 (some ⟨gx, 0, none⟩) len row.length W off hol
  rw [cutA_some gx row.length off (by omega)] at hsl
  have hD := Lib.hid fun n => utf8_DecodeRune (w.drewN n) gx off (row.length - off) (x :: t) (by simp) hT (fun j hj => by
    have h1 := (hR.drewN n).cell (off + j)
    rw [h1]
    have h2 : (unread row len off)[j]? = some ((x :: t)[j]) := by rw [hu]; exact List.getElem?_eq_getElem hj
    have h3 : row[off + j]? = some ((x :: t)[j]) := by
      rw [unread_eq, List.getElem?_take] at h2
      split at h2
      · simpa using h2
      · cases h2
    rw [h3]
    rfl)
  simp only [List.length_cons] at hD
  rw [show t.length + 1 = len - off by omega] at hD
  have HSZ := Lib.hid hsz
  have hrl := Lib.hid hm
  have HL := Lib.hid hlen
  have hlt : off < len := by omega
  clear h hR hsz hlen hu
  simp only [Option.map_some] at c0
  generalize row.length = cap at *
  go_enter Tryd.func56, Tryd.ntmps56
  go_wp2_with fail
  refine (Buffer_empty _ hB.out).mono ?_
  rintro e w1 ⟨rfl, n1, rfl⟩
  go_wp2_with fail
  go_quiet (fail)
  go_wp2_with fail
  have hHB := Lib.hid hB.out
  go_region_with ((go_at_call 78; ((with_reducible refine (hD.out (n1 + nq + 1)).mono ?_); rintro e w2 ⟨r, k, rfl, HR, hf2⟩; have hBf := (hHB.out.drewN (n1 + nq + 1)).fr hf2 (by simp) (by simp); have d1 := hBf.c1; have d2 := hBf.c2; have e1 := hBf.fz 1; have e2 := hBf.fz 2; have HBF := Lib.hid hBf; obtain ⟨s1, s2, s3⟩ : 1 ≤ k ∧ k ≤ 4 ∧ off + k ≤ len := (by have h1 := HSZ.out; have h2 : k = (dec (x :: t)).2 := congrArg Prod.snd HR.out; have h3 := HL.out; omega); clear hBf)))
  all_goals
    go_wp2_with fail
    go_ret3
    refine ⟨r, k, rfl, HR, ?_, ?_⟩
    · have := (HBF.out.set1 (off + k) (by omega)).set2 (k : Int)
      rw [Int.natCast_add] at this
      exact this
    · exact (((((Fr.refl [b] w).drewN _).trans (hf2.more (by simp))).setCell (.inl (by simp)) _).setCell (.inl (by simp)) _)

theorem Buffer_ReadRune (hne : unread row len off ≠ []) (hT : Tabs w) : Calls Tryd.prog 56 #[.pointer (some ⟨b, 0, none⟩)] w fun e w' => ∃ r k : Nat, e = .returned (.tuple #[.int .i32 (r : Int), .int .i64 (k : Int), .nilIface]) ∧ Hid ((r, k) = dec (unread row len off)) ∧ Buf w' b g row len (off + k) (k : Int) ∧ Fr [b] w w' := by
  cases hu : unread row len off with
  | nil => exact absurd hu hne
  | cons x t =>
    by_cases hx : x.toNat < 128
    · refine (Buffer_ReadRune_ascii w h x t hu hx).mono ?_
      rintro e w' ⟨rfl, hB, hf⟩
      refine ⟨x.toNat, 1, rfl, ?_, hB, hf⟩
      show _ = _
      unfold dec Lib.decodeN
      rw [if_pos (by simpa [byteAt] using hx)]
      rfl
    · exact Buffer_ReadRune_other w h x t hu hx hT

theorem Buffer_UnreadByte_no (h0 : lr = 0) (a : Addr) (hE : Unr w a) : Calls Tryd.prog 57 #[.pointer (some ⟨b, 0, none⟩)] w fun e w' => e = .returned (.iface 137 (.pointer (some a))) ∧ w = w' := by
  have c2 := h.c2
  subst h0
  clear h
  unfold Unr at hE
  go_enter Tryd.func57, Tryd.ntmps57
  go_wp2_with fail
  go_ret
  exact ⟨rfl, rfl⟩

set_option maxRecDepth 100000 in
theorem Buffer_UnreadByte_yes (h0 : lr ≠ 0) : Calls Tryd.prog 57 #[.pointer (some ⟨b, 0, none⟩)] w fun e w' => e = .returned .nilIface ∧ Buf w' b g row len (off - 1) 0 ∧ Fr [b] w w' := by
  have c1 := h.c1
  have c2 := h.c2
  have f1 := h.fz 1
  have f2 := h.fz 2
  have hol := h.off_le
  have hm := h.len_le
  have hc := h.cap_le
  have hB := Lib.hid h
  have hlr : (lr == 0) = false := by simpa using h0
  have hB2 := Lib.hid (h.set2 0)
  clear h h0
  by_cases ho : 0 < off
  · go_enter Tryd.func57, Tryd.ntmps57
    go_wp2_with fail
    go_ret
    refine ⟨rfl, ?_, ((Fr.refl [b] w).setCell (.inl (by simp)) _).setCell (.inl (by simp)) _⟩
    have := hB2.out.set1 (off - 1) (by omega)
    rw [show ((off - 1 : Nat) : Int) = (off : Int) - 1 by omega] at this
    exact this
  · obtain rfl : off = 0 := by omega
    go_enter Tryd.func57, Tryd.ntmps57
    go_wp2_with fail
    go_ret
    exact ⟨rfl, hB2.out, (Fr.refl [b] w).setCell (.inl (by simp)) _⟩

set_option maxRecDepth 100000 in
theorem Buffer_UnreadRune_no (h0 : lr ≤ 0) : Calls Tryd.prog 58 #[.pointer (some ⟨b, 0, none⟩)] w fun e w' => ∃ (a : Addr) (cs : Array Value) (t : TypeId), e = .returned (.iface 137 (.pointer (some a))) ∧ w.heap.size ≤ a.block ∧ w'.heap[a.block]? = some (.cells cs t (0, 0)) ∧ Fr [] w w' := by
  have c2 := h.c2
  clear h
  go_enter Tryd.func58, Tryd.ntmps58
  go_wp2_with go_in
  go_ret
  exact ⟨_, _, _, rfl, Nat.le_refl _, heap_alloc_new w _, (Fr.refl [] w).alloc _⟩

set_option maxRecDepth 100000 in
theorem Buffer_UnreadRune_yes (k : Nat) (hk : lr = (k : Int)) (h1 : 1 ≤ k) (h4 : k ≤ 4) : Calls Tryd.prog 58 #[.pointer (some ⟨b, 0, none⟩)] w fun e w' => ∃ off', e = .returned .nilIface ∧ Buf w' b g row len off' 0 ∧ Hid (off' = if k ≤ off then off - k else off) ∧ Fr [b] w w' := by
  subst hk
  have c1 := h.c1
  have c2 := h.c2
  have f1 := h.fz 1
  have f2 := h.fz 2
  have hol := h.off_le
  have hm := h.len_le
  have hc := h.cap_le
  have hB := Lib.hid h
  clear h
  have hk0 : ¬ (k : Int) ≤ 0 := by omega
  by_cases ho : k ≤ off
  · have hwr : IntKind.i64.wrap ((off : Int) - (k : Int)) = (off : Int) - (k : Int) := IntWalk.i64_in _ (by omega)
    go_enter Tryd.func58, Tryd.ntmps58
    go_wp2_with fail
    go_quiet (fail)
    go_wp2_with fail
    go_region
    go_wp2_with fail
    go_ret
    refine ⟨rfl, off - k, ?_, rfl, ?_⟩
    · have := ((hB.out.drewN (nq + 1)).set1 (off - k) (by omega)).set2 0
      rw [show ((off - k : Nat) : Int) = (off : Int) - (k : Int) by omega] at this
      exact this
    · exact (((Fr.refl [b] w).drewN _).setCell (.inl (by simp)) _).setCell (.inl (by simp)) _
  · have ho' : ¬ (k : Int) ≤ (off : Int) := by omega
    go_enter Tryd.func58, Tryd.ntmps58
    go_wp2_with fail
    go_quiet (fail)
    go_wp2_with fail
    go_ret
    exact ⟨rfl, off, (hB.out.drewN _).set2 0, rfl, ((Fr.refl [b] w).drewN _).setCell (.inl (by simp)) _⟩
end

end Go.Proofs.YtgjaeggpaomoaaaDoor
