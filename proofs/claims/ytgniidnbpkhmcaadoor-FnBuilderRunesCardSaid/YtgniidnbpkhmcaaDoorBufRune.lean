/- A buffer written with code points. -/
import Derived.Test.YtgniidnbpkhmcaaDoorRune
import Derived.Test.YtgniidnbpkhmcaaDoorEnc
import Derived.Test.YtgniidnbpkhmcaaDoorLawW
namespace Go.Proofs.YtgniidnbpkhmcaaDoor
open Go.RowKit
set_option linter.unusedVariables false
attribute [local go_sem ↓] Go.wp_at_zero Go.wp_at_succ

theorem runes_bv (r : Int) : Lib.runeCells r = (Lib.encodeRune r).map bv := (Lib.byteCells_encodeRune r).symm

theorem rune_room {w : World} {b y : Nat} {row : List UInt8} {m off : Nat} {lr : Int} (h : Buf w b (some y) row (m + 4) off lr) (r : Int) :
    RuneRun w (some ⟨y, 0, none⟩) m row.length r (.slice (some ⟨y, 0, none⟩) (m + (Lib.runeCells r).length) row.length) ((w.alloc (.cells (Lib.runeCells r).toArray 5)).setCells y m ((Lib.encodeRune r).map bv)) := by
  obtain ⟨i, hi, hz, hsz, hby⟩ : ∃ i, Tryd.prog.info? 5 = some i ∧ i.zero = some (.int .u8 0) ∧ i.size = 1 ∧ i.bytes = 1 := by
    have hinfo := info5g
    cases hi : Tryd.prog.info? 5 with
    | none => simp [hi] at hinfo
    | some i => simp [hi] at hinfo; exact ⟨i, rfl, hinfo.1, hinfo.2.1, hinfo.2.2⟩
  have hle := h.len_le
  have hrl := enc_len r
  have hkl := Lib.runeCells_length r
  have hR := ((h.alloc (.cells (Lib.runeCells r).toArray 5)).some_ y rfl).2
  have hsrc : Src Tryd.prog 1 22 (.slice (some ⟨w.heap.size, 0, none⟩) (Lib.runeCells r).length (Lib.runeCells r).length) (Lib.runeCells r).length ((Lib.encodeRune r).map bv) (w.alloc (.cells (Lib.runeCells r).toArray 5)) := by
    rw [← runes_bv]
    refine Src.ofSlice _ Tryd.underlying22 _ _ _ _ (by simp) (World.news_of_block (cs := (Lib.runeCells r).toArray) (heap_alloc_new w _)) ?_
    intro u hu
    rw [runes_bv] at hu
    exact bv_one _ u hu
  have hr := run_append_room_src (P := Tryd.prog) (w.alloc (.cells (Lib.runeCells r).toArray 5)) 22 22 22 5 i Tryd.underlying22 hi y 0 m row.length _ (Lib.runeCells r).length ((Lib.encodeRune r).map bv) (by rw [hsz]; exact hsrc) (by omega) (fun j hj => by
    simp at hj
    rw [hsz, hR.cell, List.getElem?_eq_getElem (by omega)]
    rfl) (fun j hj => by
    simp at hj
    exact hR.frozen (by rw [hsz]; omega))
  rw [hsz, Nat.mul_one, Nat.zero_add] at hr
  exact hr

/-- What a write of a code point leaves. -/
structure PutR (w w' : World) (b : Nat) (g : Option Nat) (row : List UInt8) (len off : Nat) (news : List UInt8) (g' : Option Nat) (row' : List UInt8) (len' off' : Nat) : Prop where
  buf : Buf w' b g' row' len' off' 0
  reads : unread row' len' off' = unread row len off ++ news
  len_le : len' ≤ len + news.length
  zero : off = 0 → len' = len + news.length ∧ off' = 0
  fr : Fr (b :: g.toList) w w'
  at_ : ∀ x, g' = some x → g = some x ∨ w.heap.size ≤ x
theorem Put.r {w w' : World} {b : Nat} {g : Option Nat} {row : List UInt8} {len off : Nat} {news : List UInt8} {g' : Option Nat} {row' : List UInt8} {len' off' : Nat} (h : Put w w' b g row len off news g' row' len' off') : PutR w w' b g row len off news g' row' len' off' := ⟨h.buf, h.reads, h.len_le, h.zero, h.fr, h.at_⟩
theorem Bw.putR {W : Nat} {wr w2 : World} {b : Nat} {s l : List UInt8} {g g2 : Option Nat} {row row2 : List UInt8} {len off len2 off2 : Nat} {lr : Int} (h : Bw W wr b s g row len off lr) (hW : W ≤ wr.heap.size) (hp : PutR wr w2 b g row len off l g2 row2 len2 off2) : Bw W w2 b (s ++ l) g2 row2 len2 off2 0 :=
  ⟨hp.buf, by rw [hp.reads, h.reads], fun x e => by
    rcases hp.at_ x e with h1 | h1
    · exact h.new_ x h1
    · omega, h.b_⟩

theorem Put.rune {w w0 w2 : World} {b : Nat} {g : Option Nat} {row : List UInt8} {len off : Nat} {y : Nat} {row2 : List UInt8} {m off2 : Nat} {lr2 : Int} (hf0 : Fr [b] w w0) (hG : Grew w0 w2 b g row len off 0 4 (some y) row2 m off2 lr2) (r : Int) :
    PutR w (((w2.alloc (.cells (Lib.runeCells r).toArray 5)).setCells y m ((Lib.encodeRune r).map bv)).setCell ⟨b, 0, none⟩ (.slice (some ⟨y, 0, none⟩) (m + (Lib.runeCells r).length) row2.length)) b g row len off (Lib.encodeRune r) (some y) (over row2 m (Lib.encodeRune r)) (m + (Lib.runeCells r).length) off2 := by
  obtain rfl : lr2 = 0 := by rcases hG.lr_ with h | h <;> exact h
  have hle := hG.buf.len_le
  have hrl := enc_len r
  have hkl := Lib.runeCells_length r
  have hol : (over row2 m (Lib.encodeRune r)).length = row2.length := over_length _ _ _ (by omega)
  have hB3 := (hG.buf.alloc (.cells (Lib.runeCells r).toArray 5)).row' (row_setCells ((hG.buf.alloc (.cells (Lib.runeCells r).toArray 5)).some_ y rfl).2 m (Lib.encodeRune r) (by omega)) (fr_setCells y _ _ _) hol
  have hB4 := hB3.set0 (m + (Lib.runeCells r).length) (by rw [hol]; omega) (by have := hG.off_le; omega)
  rw [hol] at hB4
  refine ⟨hB4, ?_, by have := hG.m_le; omega, fun e => ?_, ?_, fun x e => ?_⟩
  · rw [unread_put row2 _ m off2 _ hkl.symm (by omega) hG.off_le, hG.reads]
  · have := hG.zero e
    omega
  · have hf02 : Fr (b :: g.toList) w w2 := (hf0.more (by simp)).trans hG.fr
    refine ((hf02.alloc _).trans_of (fr_setCells y _ _ _) (fun i hi => ?_)).setCell (.inl (by simp)) _
    simp only [List.mem_singleton] at hi
    subst hi
    rcases hG.at_ i rfl with h | h
    · exact .inl (by simp [h])
    · exact .inr (Nat.le_trans hf0.size h)
  · rcases hG.at_ x e with h | h
    · exact .inl h
    · exact .inr (Nat.le_trans hf0.size h)

section
variable {b : Nat} {g : Option Nat} {row : List UInt8} {len off : Nat} {lr : Int} (w : World) (h : Buf w b g row len off lr)
include h
set_option maxHeartbeats 1600000 in
set_option maxRecDepth 100000 in
theorem Buffer_WriteRune_ascii (r : Int) (h0 : 0 ≤ r) (h1 : r ≤ 127) (hlim : len + 4 ≤ 140737488355328) :
    Calls Tryd.prog 43 #[.pointer (some ⟨b, 0, none⟩), .int .i32 r] w fun e w' => ∃ (g' : Option Nat) (row' : List UInt8) (len' off' k : Nat), e = .returned (.tuple #[.int .i64 (k : Int), .nilIface]) ∧ Hid (k = (Lib.encodeRune r).length) ∧ PutR w w' b g row len off (Lib.encodeRune r) g' row' len' off' := by
  obtain ⟨x, rfl⟩ : ∃ x : UInt8, r = (x.toNat : Int) := ⟨UInt8.ofNat r.toNat, by simp; omega⟩
  have hx : Lib.encodeRune (x.toNat : Int) = [x] := by
    unfold Lib.encodeRune
    rw [Lib.encodeRuneZ_one h0 h1]
    simp
  rw [hx]
  have hw := Lib.hid (Buffer_WriteByte w h x (by omega))
  clear h hx
  go_enter Tryd.func43, Tryd.ntmps43
  go_wp2_with fail
  refine hw.out.mono ?_
  rintro e w2 ⟨g2, row2, len2, off2, rfl, hp⟩
  go_wp2_with fail
  go_ret2
  exact ⟨g2, row2, len2, off2, 1, rfl, rfl, hp.r⟩

set_option maxHeartbeats 1600000 in
set_option maxRecDepth 100000 in
theorem Buffer_WriteRune_other (r : Int) (hr0 : -2147483648 ≤ r) (hr1 : r ≤ 2147483647) (hna : r < 0 ∨ 128 ≤ r) (hlim : len + 4 ≤ 140737488355328) :
    Calls Tryd.prog 43 #[.pointer (some ⟨b, 0, none⟩), .int .i32 r] w fun e w' => ∃ (g' : Option Nat) (row' : List UInt8) (len' off' k : Nat), e = .returned (.tuple #[.int .i64 (k : Int), .nilIface]) ∧ Hid (k = (Lib.encodeRune r).length) ∧ PutR w w' b g row len off (Lib.encodeRune r) g' row' len' off' := by
  have h2 := h.set2 0
  have c2 := h.c2
  have f2 := h.fz 2
  have hol := h.off_le
  have hf0 : Fr [b] w (w.setCell ⟨b, 2, none⟩ (.int .i8 0)) := (Fr.refl [b] w).setCell (.inl (by simp)) _
  have HB := Lib.hid h2
  have hrl := enc_len r
  have hkl := Lib.runeCells_length r
  clear h h2
  have hstage : Hid (∀ w2 g2 row2 m off2 lr2, Grew (w.setCell ⟨b, 2, none⟩ (.int .i8 0)) w2 b g row len off 0 4 g2 row2 m off2 lr2 → ∃ y, g2 = some y) := by
    intro w2 g2 row2 m off2 lr2 hG
    cases g2 with
    | none =>
      have := hG.buf.none_ rfl
      have h5 := hG.buf.len_le
      rw [this] at h5
      simp at h5
    | some y => exact ⟨y, rfl⟩
  rcases hna with hneg | hpos
  · go_enter Tryd.func43, Tryd.ntmps43
    go_wp2_with fail
    generalize w.setCell ⟨b, 2, none⟩ (.int .i8 0) = w0 at *
    by_cases hroom : len + 4 ≤ row.length
    · have hty : Calls Tryd.prog 50 #[.pointer (some ⟨b, 0, none⟩), .int .i64 4] _ _ := Buffer_tryGrow_yes _ HB.out 4 hroom
      refine hty.mono ?_
      rintro e w2 ⟨rfl, hB2, hf2⟩
      have hG := Grew.same hol hB2 hf2
      obtain ⟨y, rfl⟩ := hstage _ _ _ _ _ _ hG
      have HP := Lib.hid (Put.rune hf0 hG r)
      have HU := Lib.hid (utf8_AppendRune w2 _ _ _ r _ _ _ _ hr0 hr1 (rune_room hG.buf r))
      have hle := hG.buf.len_le
      have hcl := hG.buf.cap_le
      have hB3 := (hG.buf.alloc (.cells (Lib.runeCells r).toArray 5)).row' (row_setCells ((hG.buf.alloc (.cells (Lib.runeCells r).toArray 5)).some_ y rfl).2 len (Lib.encodeRune r) (by omega)) (fr_setCells y _ _ _) (over_length _ _ _ (by omega))
      have c0 := hG.buf.c0
      have d0 := hB3.c0
      have e0 := hB3.fz 0
      have hsl := fun W => run_cut_h (P := Tryd.prog) 22 5 Tryd.underlying22 size5 (some ⟨y, 0, none⟩) (len + 4) row.length W len (by omega)
      have hoff := hG.off_le
      simp only [Option.map_some] at c0 d0
      generalize (w2.alloc (.cells (Lib.runeCells r).toArray 5)).setCells y len ((Lib.encodeRune r).map bv) = w4 at *
      generalize (Lib.runeCells r).length = k at *
      have HK := Lib.hid hkl
      have hk4 : k ≤ 4 := by omega
      clear hkl hG hB3 hB2 hty
      go_wp2_with fail
      refine HU.out.mono ?_
      rintro e w3 ⟨rfl, rfl⟩
      go_wp2_with fail
      go_ret2
      exact ⟨_, _, _, _, k, by simp; omega, HK, HP.out⟩
    · have htn : Calls Tryd.prog 50 #[.pointer (some ⟨b, 0, none⟩), .int .i64 4] _ _ := Buffer_tryGrow_no _ HB.out 4 (by omega)
      refine htn.mono ?_
      rintro e w1 ⟨rfl, rfl⟩
      have hgr : Hid (Calls Tryd.prog 51 #[.pointer (some ⟨b, 0, none⟩), .int .i64 4] _ _) := Lib.hid (Buffer_grow w0 HB.out 4 hlim)
      clear htn
      go_wp2_with fail
      refine hgr.out.mono ?_
      rintro e w2 ⟨g2, row2, m, off2, lr2, rfl, hG⟩
      obtain ⟨y, rfl⟩ := hstage _ _ _ _ _ _ hG
      have HP := Lib.hid (Put.rune hf0 hG r)
      have HU := Lib.hid (utf8_AppendRune w2 _ _ _ r _ _ _ _ hr0 hr1 (rune_room hG.buf r))
      have hle := hG.buf.len_le
      have hcl := hG.buf.cap_le
      have hB3 := (hG.buf.alloc (.cells (Lib.runeCells r).toArray 5)).row' (row_setCells ((hG.buf.alloc (.cells (Lib.runeCells r).toArray 5)).some_ y rfl).2 m (Lib.encodeRune r) (by omega)) (fr_setCells y _ _ _) (over_length _ _ _ (by omega))
      have c0 := hG.buf.c0
      have d0 := hB3.c0
      have e0 := hB3.fz 0
      have hsl := fun W => run_cut_h (P := Tryd.prog) 22 5 Tryd.underlying22 size5 (some ⟨y, 0, none⟩) (m + 4) row2.length W m (by omega)
      have hoff := hG.off_le
      simp only [Option.map_some] at c0 d0
      generalize (w2.alloc (.cells (Lib.runeCells r).toArray 5)).setCells y m ((Lib.encodeRune r).map bv) = w4 at *
      generalize (Lib.runeCells r).length = k at *
      have HK := Lib.hid hkl
      have hk4 : k ≤ 4 := by omega
      clear hkl hG hB3
      go_wp2_with fail
      refine HU.out.mono ?_
      rintro e w3 ⟨rfl, rfl⟩
      go_wp2_with fail
      go_ret2
      exact ⟨_, _, _, _, k, by simp; omega, HK, HP.out⟩
  · go_enter Tryd.func43, Tryd.ntmps43
    go_wp2_with fail
    generalize w.setCell ⟨b, 2, none⟩ (.int .i8 0) = w0 at *
    by_cases hroom : len + 4 ≤ row.length
    · have hty : Calls Tryd.prog 50 #[.pointer (some ⟨b, 0, none⟩), .int .i64 4] _ _ := Buffer_tryGrow_yes _ HB.out 4 hroom
      refine hty.mono ?_
      rintro e w2 ⟨rfl, hB2, hf2⟩
      have hG := Grew.same hol hB2 hf2
      obtain ⟨y, rfl⟩ := hstage _ _ _ _ _ _ hG
      have HP := Lib.hid (Put.rune hf0 hG r)
      have HU := Lib.hid (utf8_AppendRune w2 _ _ _ r _ _ _ _ hr0 hr1 (rune_room hG.buf r))
      have hle := hG.buf.len_le
      have hcl := hG.buf.cap_le
      have hB3 := (hG.buf.alloc (.cells (Lib.runeCells r).toArray 5)).row' (row_setCells ((hG.buf.alloc (.cells (Lib.runeCells r).toArray 5)).some_ y rfl).2 len (Lib.encodeRune r) (by omega)) (fr_setCells y _ _ _) (over_length _ _ _ (by omega))
      have c0 := hG.buf.c0
      have d0 := hB3.c0
      have e0 := hB3.fz 0
      have hsl := fun W => run_cut_h (P := Tryd.prog) 22 5 Tryd.underlying22 size5 (some ⟨y, 0, none⟩) (len + 4) row.length W len (by omega)
      have hoff := hG.off_le
      simp only [Option.map_some] at c0 d0
      generalize (w2.alloc (.cells (Lib.runeCells r).toArray 5)).setCells y len ((Lib.encodeRune r).map bv) = w4 at *
      generalize (Lib.runeCells r).length = k at *
      have HK := Lib.hid hkl
      have hk4 : k ≤ 4 := by omega
      clear hkl hG hB3 hB2 hty
      go_wp2_with fail
      refine HU.out.mono ?_
      rintro e w3 ⟨rfl, rfl⟩
      go_wp2_with fail
      go_ret2
      exact ⟨_, _, _, _, k, by simp; omega, HK, HP.out⟩
    · have htn : Calls Tryd.prog 50 #[.pointer (some ⟨b, 0, none⟩), .int .i64 4] _ _ := Buffer_tryGrow_no _ HB.out 4 (by omega)
      refine htn.mono ?_
      rintro e w1 ⟨rfl, rfl⟩
      have hgr : Hid (Calls Tryd.prog 51 #[.pointer (some ⟨b, 0, none⟩), .int .i64 4] _ _) := Lib.hid (Buffer_grow w0 HB.out 4 hlim)
      clear htn
      go_wp2_with fail
      refine hgr.out.mono ?_
      rintro e w2 ⟨g2, row2, m, off2, lr2, rfl, hG⟩
      obtain ⟨y, rfl⟩ := hstage _ _ _ _ _ _ hG
      have HP := Lib.hid (Put.rune hf0 hG r)
      have HU := Lib.hid (utf8_AppendRune w2 _ _ _ r _ _ _ _ hr0 hr1 (rune_room hG.buf r))
      have hle := hG.buf.len_le
      have hcl := hG.buf.cap_le
      have hB3 := (hG.buf.alloc (.cells (Lib.runeCells r).toArray 5)).row' (row_setCells ((hG.buf.alloc (.cells (Lib.runeCells r).toArray 5)).some_ y rfl).2 m (Lib.encodeRune r) (by omega)) (fr_setCells y _ _ _) (over_length _ _ _ (by omega))
      have c0 := hG.buf.c0
      have d0 := hB3.c0
      have e0 := hB3.fz 0
      have hsl := fun W => run_cut_h (P := Tryd.prog) 22 5 Tryd.underlying22 size5 (some ⟨y, 0, none⟩) (m + 4) row2.length W m (by omega)
      have hoff := hG.off_le
      simp only [Option.map_some] at c0 d0
      generalize (w2.alloc (.cells (Lib.runeCells r).toArray 5)).setCells y m ((Lib.encodeRune r).map bv) = w4 at *
      generalize (Lib.runeCells r).length = k at *
      have HK := Lib.hid hkl
      have hk4 : k ≤ 4 := by omega
      clear hkl hG hB3
      go_wp2_with fail
      refine HU.out.mono ?_
      rintro e w3 ⟨rfl, rfl⟩
      go_wp2_with fail
      go_ret2
      exact ⟨_, _, _, _, k, by simp; omega, HK, HP.out⟩

theorem Buffer_WriteRune (r : Int) (hr0 : -2147483648 ≤ r) (hr1 : r ≤ 2147483647) (hlim : len + 4 ≤ 140737488355328) :
    Calls Tryd.prog 43 #[.pointer (some ⟨b, 0, none⟩), .int .i32 r] w fun e w' => ∃ (g' : Option Nat) (row' : List UInt8) (len' off' k : Nat), e = .returned (.tuple #[.int .i64 (k : Int), .nilIface]) ∧ Hid (k = (Lib.encodeRune r).length) ∧ PutR w w' b g row len off (Lib.encodeRune r) g' row' len' off' := by
  by_cases ha : 0 ≤ r ∧ r ≤ 127
  · exact Buffer_WriteRune_ascii w h r ha.1 ha.2 hlim
  · exact Buffer_WriteRune_other w h r hr0 hr1 (by omega) hlim
end

end Go.Proofs.YtgniidnbpkhmcaaDoor
