/- A bytes.Buffer that is written. -/
import Derived.Test.YtgniidnbpkhmcaaDoorGrow2
namespace Go.Proofs.YtgniidnbpkhmcaaDoor
open Go.RowKit
set_option linter.unusedVariables false
attribute [local go_sem ↓] Go.wp_at_zero Go.wp_at_succ

theorem unread_put (row l : List UInt8) (m off n : Nat) (hn : l.length = n) (hm : m + n ≤ row.length) (ho : off ≤ m) : unread (over row m l) (m + n) off = unread row m off ++ l := by
  unfold unread over
  rw [List.take_append_of_le_length (by simp; omega), List.take_of_length_le (by simp; omega), List.drop_append_of_le_length (by simp; omega)]

/-- What a copy behind m leaves. -/
structure Cop (w w' : World) (b : Nat) (g : Option Nat) (row row' : List UInt8) (m n off : Nat) (lr : Int) (l : List UInt8) : Prop where
  buf : Buf w' b g row' (m + n) off lr
  len_ : row'.length = row.length
  reads : unread row' (m + n) off = unread row m off ++ l
  fr : Fr g.toList w w'

theorem Cop.some_ {w : World} {b y : Nat} {row : List UInt8} {m n off : Nat} {lr : Int} {l : List UInt8} (h : Buf w b (some y) row (m + n) off lr) (ho : off ≤ m) (hn : l.length = n) : Cop w (w.setCells y m (l.map bv)) b (some y) row (over row m l) m n off lr l := by
  have hle := h.len_le
  have hol : (over row m l).length = row.length := over_length _ _ _ (by omega)
  exact ⟨h.row' (row_setCells (h.some_ y rfl).2 m l (by omega)) (fr_setCells y _ _ _) hol, hol, unread_put row l m off n hn hle ho, fr_setCells y _ _ _⟩
theorem Cop.none_ {w : World} {b : Nat} {row : List UInt8} {m n off : Nat} {lr : Int} {l : List UInt8} (h : Buf w b none row (m + n) off lr) (hn : l.length = n) : n = 0 ∧ m = 0 ∧ Cop w w b none row row m n off lr l := by
  have hr := h.none_ rfl
  have hle := h.len_le
  subst hr
  simp at hle
  obtain ⟨rfl, rfl⟩ := hle
  obtain rfl : l = [] := List.eq_nil_of_length_eq_zero hn
  exact ⟨rfl, rfl, h, rfl, by simp [unread], Fr.refl _ _⟩

theorem Buf.copy_str {P : Program} {w : World} {b : Nat} {g : Option Nat} {row : List UInt8} {m n off : Nat} {lr : Int} (h : Buf w b g row (m + n) off lr) (ho : off ≤ m) (l : List UInt8) (hn : l.length = n) (dT sT ty : TypeId) (hu : P.underlying dT = some (.slice 5)) (hs : (P.info? 5).map (·.size) = some 1) :
    ∃ w' row', (Builtin.copy_ #[dT, sT] ty #[.slice (cutA (g.map fun g => ⟨g, 0, none⟩) row.length m) n (row.length - m), .string ⟨l.toArray⟩]).run P w = .ok (.int .i64 (n : Int)) w' ∧ Cop w w' b g row row' m n off lr l := by
  cases g with
  | none =>
    obtain ⟨rfl, rfl, hc⟩ := Cop.none_ h hn
    obtain rfl : l = [] := List.eq_nil_of_length_eq_zero hn
    refine ⟨w, row, ?_, hc⟩
    obtain ⟨i, hi, h1⟩ : ∃ i, P.info? 5 = some i ∧ i.size = 1 := by
      cases hi : P.info? 5 with
      | none => simp [hi] at hs
      | some i => exact ⟨i, rfl, by simpa [hi] using hs⟩
    have hz : ∀ w, (sizeOf 5).run P w = .ok 1 w := fun w => by simp [sizeOf, typeInfo, hi, h1]
    have e : cutA (Option.map (fun g => (⟨g, 0, none⟩ : Addr)) none) row.length 0 = none := by simp [cutA]
    rw [e]
    simp [Builtin.copy_, run_underlying hu, Builtin.lenOf, Builtin.firstCells, hz, ByteArray.size, goInt]
  | some y =>
    have hc := run_copy_str (P := P) (h.some_ y rfl).2 l dT sT ty hu hs m n (row.length - m) h.len_le (by omega)
    rw [hn] at hc
    exact ⟨_, _, hc, Cop.some_ h ho hn⟩
theorem Buf.copy_sl {P : Program} {w : World} {b : Nat} {g : Option Nat} {row : List UInt8} {m n off : Nat} {lr : Int} (h : Buf w b g row (m + n) off lr) (ho : off ≤ m) (A : Option Addr) (c : Nat) (l : List UInt8) (hS : Sl w A n l) (dT sT ty : TypeId) (hu : P.underlying dT = some (.slice 5)) (hs : (P.info? 5).map (·.size) = some 1) :
    ∃ w' row', (Builtin.copy_ #[dT, sT] ty #[.slice (cutA (g.map fun g => ⟨g, 0, none⟩) row.length m) n (row.length - m), .slice A n c]).run P w = .ok (.int .i64 (n : Int)) w' ∧ Cop w w' b g row row' m n off lr l := by
  cases g with
  | none =>
    obtain ⟨rfl, rfl, hc⟩ := Cop.none_ h hS.1.symm
    refine ⟨w, row, ?_, hc⟩
    rw [run_copy_none (P := P) w dT sT ty 5 _ A 0 _ 0 c hu hs rfl]
    rfl
  | some y =>
    have hc := run_copy_sl (P := P) (h.some_ y rfl).2 hS dT sT ty hu hs m n (row.length - m) c h.len_le
    rw [Nat.min_self, List.take_of_length_le (by rw [hS.1]; exact Nat.le_refl _)] at hc
    exact ⟨_, _, hc, Cop.some_ h ho hS.1.symm⟩

theorem Grew.same {w w2 : World} {b : Nat} {g : Option Nat} {row : List UInt8} {len off : Nat} {lr : Int} {n : Nat} (ho : off ≤ len) (hB2 : Buf w2 b g row (len + n) off lr) (hf2 : Fr [b] w w2) : Grew w w2 b g row len off lr n g row len off lr :=
  ⟨hB2, ho, Nat.le_refl _, rfl, Nat.le_refl _, fun _ => rfl, fun e => ⟨rfl, e⟩, .inl rfl, hf2.more (by simp), fun x e => .inl e⟩

/-- What a write leaves. -/
structure Put (w w' : World) (b : Nat) (g : Option Nat) (row : List UInt8) (len off : Nat) (news : List UInt8) (g' : Option Nat) (row' : List UInt8) (len' off' : Nat) : Prop where
  buf : Buf w' b g' row' len' off' 0
  reads : unread row' len' off' = unread row len off ++ news
  len_le : len' ≤ len + news.length
  keeps : len + news.length ≤ row.length → row'.length = row.length
  zero : off = 0 → len' = len + news.length ∧ off' = 0
  fr : Fr (b :: g.toList) w w'
  at_ : ∀ x, g' = some x → g = some x ∨ w.heap.size ≤ x

theorem Put.of_grew {w w0 w2 w3 : World} {b : Nat} {g : Option Nat} {row : List UInt8} {len off : Nat} {n : Nat} {g2 : Option Nat} {row2 row3 : List UInt8} {m off2 : Nat} {lr2 : Int} {l : List UInt8} (hf0 : Fr [b] w w0) (hG : Grew w0 w2 b g row len off 0 n g2 row2 m off2 lr2)
    (hC : Cop w2 w3 b g2 row2 row3 m n off2 lr2 l) (hl : l.length = n) : Put w w3 b g row len off l g2 row3 (m + n) off2 := by
  obtain rfl : lr2 = 0 := by rcases hG.lr_ with h | h <;> exact h
  subst hl
  refine ⟨hC.buf, by rw [hC.reads, hG.reads], by have := hG.m_le; omega, fun h => by rw [hC.len_]; exact hG.keeps h, fun e => by have := hG.zero e; omega, ?_, fun x e => ?_⟩
  · have hf02 : Fr (b :: g.toList) w w2 := (hf0.more (by simp)).trans hG.fr
    refine hf02.trans_of hC.fr (fun i hi => ?_)
    simp only [Option.mem_toList] at hi
    rcases hG.at_ i hi with h | h
    · exact .inl (by simp [h])
    · exact .inr (Nat.le_trans hf0.size h)
  · rcases hG.at_ x e with h | h
    · exact .inl h
    · exact .inr (Nat.le_trans hf0.size h)

section
variable {b : Nat} {g : Option Nat} {row : List UInt8} {len off : Nat} {lr : Int} (w : World) (h : Buf w b g row len off lr)
include h

set_option maxHeartbeats 1600000 in
theorem Buffer_WriteString (l : List UInt8) (hlim : len + l.length ≤ 140737488355328) : Calls Tryd.prog 31 #[.pointer (some ⟨b, 0, none⟩), .string ⟨l.toArray⟩] w fun e w' => ∃ (g' : Option Nat) (row' : List UInt8) (len' off' : Nat), e = .returned (.tuple #[.int .i64 (l.length : Int), .nilIface]) ∧ Put w w' b g row len off l g' row' len' off' := by
  have h2 := h.set2 0
  have c2 := h.c2
  have f2 := h.fz 2
  have hol := h.off_le
  have hf0 : Fr [b] w (w.setCell ⟨b, 2, none⟩ (.int .i8 0)) := (Fr.refl [b] w).setCell (.inl (by simp)) _
  have HB := Lib.hid h2
  clear h h2
  go_enter Tryd.func31, Tryd.ntmps31
  go_wp2_with fail
  generalize w.setCell ⟨b, 2, none⟩ (.int .i8 0) = w0 at *
  by_cases hroom : len + l.length ≤ row.length
  · refine (Buffer_tryGrow_yes _ HB.out l.length hroom).mono ?_
    rintro e w2 ⟨rfl, hB2, hf2⟩
    have hG := Grew.same hol hB2 hf2
    obtain ⟨w3, row3, hrun, hC⟩ := hB2.copy_str (P := Tryd.prog) hol l rfl 22 9 3 Tryd.underlying22 size5
    have HP := Lib.hid (Put.of_grew hf0 hG hC rfl)
    have c0 := hB2.c0
    have hsl := fun W => run_cut_l (P := Tryd.prog) 22 5 Tryd.underlying22 size5 (g.map fun g => ⟨g, 0, none⟩) (len + l.length) row.length W len (by omega)
    rw [Nat.add_sub_cancel_left] at hsl
    clear hB2 hG hC
    generalize (g.map fun g => (⟨g, 0, none⟩ : Addr)) = A at *
    go_wp2_with fail
    go_ret2
    exact ⟨_, _, _, _, rfl, HP.out⟩
  · refine (Buffer_tryGrow_no _ HB.out l.length (by omega)).mono ?_
    rintro e w1 ⟨rfl, rfl⟩
    have hgr := Lib.hid (Buffer_grow w0 HB.out l.length hlim)
    go_wp2_with fail
    refine hgr.out.mono ?_
    rintro e w2 ⟨g2, row2, m, off2, lr2, rfl, hG⟩
    obtain ⟨w3, row3, hrun, hC⟩ := hG.buf.copy_str (P := Tryd.prog) hG.off_le l rfl 22 9 3 Tryd.underlying22 size5
    have HP := Lib.hid (Put.of_grew hf0 hG hC rfl)
    have c0 := hG.buf.c0
    have hle2 := hG.buf.len_le
    have hcl2 := hG.buf.cap_le
    have hsl := fun W => run_cut_l (P := Tryd.prog) 22 5 Tryd.underlying22 size5 (g2.map fun g => ⟨g, 0, none⟩) (m + l.length) row2.length W m (by omega)
    rw [Nat.add_sub_cancel_left] at hsl
    clear hG hC
    generalize (g2.map fun g => (⟨g, 0, none⟩ : Addr)) = A at *
    go_wp2_with fail
    go_ret2
    exact ⟨_, _, _, _, rfl, HP.out⟩

set_option maxHeartbeats 1600000 in
theorem Buffer_WriteByte (x : UInt8) (hlim : len + 1 ≤ 140737488355328) : Calls Tryd.prog 47 #[.pointer (some ⟨b, 0, none⟩), .int .u8 (x.toNat : Int)] w fun e w' => ∃ (g' : Option Nat) (row' : List UInt8) (len' off' : Nat), e = .returned .nilIface ∧ Put w w' b g row len off [x] g' row' len' off' := by
  have h2 := h.set2 0
  have c2 := h.c2
  have f2 := h.fz 2
  have hol := h.off_le
  have hf0 : Fr [b] w (w.setCell ⟨b, 2, none⟩ (.int .i8 0)) := (Fr.refl [b] w).setCell (.inl (by simp)) _
  have HB := Lib.hid h2
  clear h h2
  go_enter Tryd.func47, Tryd.ntmps47
  go_wp2_with fail
  generalize w.setCell ⟨b, 2, none⟩ (.int .i8 0) = w0 at *
  by_cases hroom : len + 1 ≤ row.length
  · have hty : Calls Tryd.prog 50 #[.pointer (some ⟨b, 0, none⟩), .int .i64 1] _ _ := Buffer_tryGrow_yes _ HB.out 1 hroom
    refine hty.mono ?_
    rintro e w2 ⟨rfl, hB2, hf2⟩
    have hG := Grew.same hol hB2 hf2
    cases g with
    | none =>
      have := hB2.none_ rfl
      subst this
      simp at hroom
    | some y =>
      have hR := (hB2.some_ y rfl).2
      have hC := Cop.some_ (l := [x]) hB2 hol rfl
      have HP := Lib.hid (Put.of_grew hf0 hG hC rfl)
      have c0 := hB2.c0
      have hcl2 := hB2.cap_le
      have hc := hR.cell len
      have hz := hR.frozen (i := len) (by omega)
      rw [List.getElem?_eq_getElem (by omega)] at hc
      simp only [Option.map_some, bv] at hc c0
      generalize row[len]'(by omega) = u at hc
      clear hB2 hG hC hR hty
      go_wp2_with fail
      go_ret
      exact ⟨_, _, _, _, rfl, HP.out⟩
  · have htn : Calls Tryd.prog 50 #[.pointer (some ⟨b, 0, none⟩), .int .i64 1] _ _ := Buffer_tryGrow_no _ HB.out 1 (by omega)
    refine htn.mono ?_
    rintro e w1 ⟨rfl, rfl⟩
    have hgr : Calls Tryd.prog 51 #[.pointer (some ⟨b, 0, none⟩), .int .i64 1] _ _ := Buffer_grow w0 HB.out 1 hlim
    have HGR := Lib.hid hgr
    clear hgr htn
    go_wp2_with fail
    refine HGR.out.mono ?_
    rintro e w2 ⟨g2, row2, m, off2, lr2, rfl, hG⟩
    have hle2 := hG.buf.len_le
    have hcl2 := hG.buf.cap_le
    cases g2 with
    | none =>
      have := hG.buf.none_ rfl
      subst this
      simp at hle2
    | some y =>
      have hR := (hG.buf.some_ y rfl).2
      have hC := Cop.some_ (l := [x]) hG.buf hG.off_le rfl
      have HP := Lib.hid (Put.of_grew hf0 hG hC rfl)
      have c0 := hG.buf.c0
      have hc := hR.cell m
      have hz := hR.frozen (i := m) (by omega)
      rw [List.getElem?_eq_getElem (by omega)] at hc
      simp only [Option.map_some, bv] at hc c0
      generalize row2[m]'(by omega) = u at hc
      clear hG hC hR
      go_wp2_with fail
      go_ret
      exact ⟨_, _, _, _, rfl, HP.out⟩
end

end Go.Proofs.YtgniidnbpkhmcaaDoor
