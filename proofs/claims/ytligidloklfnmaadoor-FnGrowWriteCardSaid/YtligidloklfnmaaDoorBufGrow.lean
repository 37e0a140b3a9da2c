/- A buffer that is grown, and the panic that is caught. -/
import Derived.Test.YtligidloklfnmaaDoorLawW
import Derived.Test.YtligidloklfnmaaDoorLawB
namespace Go.Proofs.YtligidloklfnmaaDoor
open Go.RowKit
set_option linter.unusedVariables false
attribute [local go_sem ↓] Go.wp_at_zero Go.wp_at_succ

/-- What Grow leaves. -/
structure Gro (w w' : World) (b : Nat) (g : Option Nat) (row : List UInt8) (len off : Nat) (n : Nat) (g' : Option Nat) (row' : List UInt8) (len' off' : Nat) (lr' : Int) : Prop where
  buf : Buf w' b g' row' len' off' lr'
  reads : unread row' len' off' = unread row len off
  room : len' + n ≤ row'.length
  len_le : len' ≤ len
  cap : row.length ≤ row'.length
  keeps : len + n ≤ row.length → row'.length = row.length
  zero : off = 0 → len' = len ∧ off' = 0
  fr : Fr (b :: g.toList) w w'
  at_ : ∀ x, g' = some x → g = some x ∨ w.heap.size ≤ x

section
variable {b : Nat} {g : Option Nat} {row : List UInt8} {len off : Nat} {lr : Int} (w : World) (h : Buf w b g row len off lr)
include h
theorem Buffer_Grow (n : Nat) (hlim : len + n ≤ 140737488355328) : Calls Tryd.prog 29 #[.pointer (some ⟨b, 0, none⟩), .int .i64 (n : Int)] w fun e w' => ∃ (g' : Option Nat) (row' : List UInt8) (len' off' : Nat) (lr' : Int), e = .returned (.tuple #[]) ∧ Gro w w' b g row len off n g' row' len' off' lr' := by
  have hgr := Lib.hid (Buffer_grow w h n hlim)
  clear h
  go_enter Tryd.func29, Tryd.ntmps29
  go_wp2_with fail
  refine hgr.out.mono ?_
  rintro e w2 ⟨g2, row2, m, off2, lr2, rfl, hG⟩
  have hle2 := hG.buf.len_le
  have hcl2 := hG.buf.cap_le
  have c0 := hG.buf.c0
  have f0 := hG.buf.fz 0
  have hsl := fun W => run_cut_h (P := Tryd.prog) 22 5 Tryd.underlying22 size5 (g2.map fun g => ⟨g, 0, none⟩) (m + n) row2.length W m (by omega)
  have HG := Lib.hid hG
  clear hG
  go_wp2_with fail
  go_end0
  exact ⟨_, _, _, _, _, rfl, ⟨HG.out.buf.set0 m (by omega) HG.out.off_le, HG.out.reads, hle2, HG.out.m_le, HG.out.cap, HG.out.keeps, HG.out.zero, HG.out.fr.setCell (.inl (by simp)) _, HG.out.at_⟩⟩

omit h in
theorem Buffer_Grow_bad (w : World) (b : Nat) (a : Int) (ha : a < 0) : Calls Tryd.prog 29 #[.pointer (some ⟨b, 0, none⟩), .int .i64 a] w fun e w' => ∃ v, e = .panicked [{ v := .iface 9 v, recovered := false }] ∧ w = w' := by
  go_enter Tryd.func29, Tryd.ntmps29
  go_wp2_with fail
  exact ⟨rfl, _, rfl, rfl⟩
end
section
variable {b : Nat} {g : Option Nat} {row : List UInt8} {len off : Nat} {lr : Int} (w : World) (h : Buf w b g row len off lr)
include h
end

theorem Bw.gro {W : Nat} {wr w2 : World} {b : Nat} {s : List UInt8} {g g2 : Option Nat} {row row2 : List UInt8} {len off len2 off2 n : Nat} {lr lr2 : Int} (h : Bw W wr b s g row len off lr) (hW : W ≤ wr.heap.size) (hp : Gro wr w2 b g row len off n g2 row2 len2 off2 lr2) : Bw W w2 b s g2 row2 len2 off2 lr2 :=
  ⟨hp.buf, by rw [hp.reads, h.reads], fun x e => by
    rcases hp.at_ x e with h1 | h1
    · exact h.new_ x h1
    · omega, h.b_⟩

theorem impl_GrowAndWrite (l : List UInt8) (n : Nat) (x : UInt8) (w : World) (hN : l.length ≤ 2097152) (hn : n ≤ 65535) :
    Calls Tryd.prog 10 #[.string ⟨l.toArray⟩, .int .u16 (n : Int), .int .u8 (x.toNat : Int)] w fun e w' => ∃ (c : Nat) (s : List UInt8), e = .returned (.tuple #[.int .i64 (c : Int), .int .i64 (c : Int), .string ⟨s.toArray⟩]) ∧ l.length + n ≤ c ∧ Hid (s = l ++ List.replicate n x) ∧ Fr [] w w' := by
  go_enter Tryd.func10, Tryd.ntmps10
  go_wp2_with fail
  refine (NewBufferString _ _ (by omega)).mono ?_
  rintro e w1 ⟨b, g1, pad, rfl, hB1, hf1, hb, hg⟩
  have hBw : Bw w.heap.size w1 b l (some g1) (l ++ pad) l.length 0 0 := ⟨hB1, by rw [unread_pad]; rfl, fun x e => by injection e with e; omega, hb⟩
  have h2 := Lib.hid (Buffer_Grow w1 hB1 n (by omega))
  have HB1 := Lib.hid hBw
  clear hBw hB1
  go_wp2_with fail
  refine h2.out.mono ?_
  rintro e w2 ⟨g2, row2, len2, off2, lr2, rfl, hG⟩
  obtain ⟨rfl, rfl⟩ := hG.zero rfl
  have hB2 := HB1.out.gro hf1.size hG
  have hf12 := HB1.out.fr_ hf1 rfl hG.fr (fun _ h => h)
  have hcap := hG.room
  have h3 := Lib.hid (Buffer_Cap w2 hG.buf)
  have HB2 := Lib.hid hB2
  clear hB2 hG
  go_wp2_with fail
  refine h3.out.mono ?_
  rintro e w3 ⟨rfl, rfl⟩
  generalize hC : row2.length = C at *
  have HC := Lib.hid hC
  clear hC
  go_wp2_with fail
  go_loopw [20] (fun i wr => ∃ k g row len lr, k ≤ n ∧ i = .int .u16 (k : Int) ∧ Bw w.heap.size wr b (l ++ List.replicate k x) g row len 0 lr ∧ Hid (row.length = C) ∧ Fr [] w wr) (fun i _ => n - (intOf i).toNat)
  case atStart => exact ⟨0, _, _, _, _, Nat.zero_le _, rfl, by simpa using HB2.out, HC, hf12⟩
  case round =>
    obtain ⟨k, g, row, len, lr, hk, rfl, hB, HR, hf⟩ := hrel
    by_cases hlt : k < n
    · have hlen := hB.len_
      simp at hlen
      have hw := Buffer_WriteByte wr hB.buf x (by omega)
      have HB := Lib.hid hB
      clear hB hlen
      go_wp2_with fail
      refine hw.mono ?_
      rintro e w4 ⟨g4, row4, len4, off4, rfl, hw4⟩
      go_wp2_with fail
      go_roundw
      case rel =>
        obtain rfl : off4 = 0 := (hw4.zero rfl).2
        refine ⟨k + 1, g4, row4, len4, 0, by omega, by go_num, ?_, ?_, HB.out.fr_ hf rfl hw4.fr (fun _ h => h)⟩
        · have := HB.out.put hf.size hw4
          rw [List.append_assoc, ← List.replicate_succ'] at this
          exact this
        · show _ = _
          have h5 := HB.out.len_
          have h6 := HR.out
          simp at h5
          rw [hw4.keeps (by simp; omega)]
          exact h6
      case measure => simp [intOf]; omega
    · obtain rfl : k = n := by omega
      have hc := Lib.hid (Buffer_Cap wr hB.buf)
      have hst := Lib.hid (Buffer_String wr hB.buf)
      have HB := Lib.hid hB
      clear hB
      go_wp2_with fail
      refine hc.out.mono ?_
      rintro e w4 ⟨rfl, rfl⟩
      go_wp2_with fail
      refine hst.out.mono ?_
      rintro e w5 ⟨s, rfl, H5, k5, rfl⟩
      rw [HR.out]
      go_wp2_with fail
      go_ret3
      exact ⟨C, s, rfl, hcap, by show _ = _; rw [H5.out, HB.out.reads], hf.drewN _⟩

end Go.Proofs.YtligidloklfnmaaDoor
