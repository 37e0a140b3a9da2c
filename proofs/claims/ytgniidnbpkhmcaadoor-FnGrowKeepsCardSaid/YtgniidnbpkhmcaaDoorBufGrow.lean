/- A buffer that is grown, and the panic that is caught. -/
import Derived.Test.YtgniidnbpkhmcaaDoorLawW
import Derived.Test.YtgniidnbpkhmcaaDoorLawB
namespace Go.Proofs.YtgniidnbpkhmcaaDoor
open Go.RowKit
set_option linter.unusedVariables false
attribute [local go_sem ↓] Go.wp_at_zero Go.wp_at_succ

/-- What Grow leaves. -/
structure Gro (w w' : World) (b : Nat) (g : Option Nat) (row : List UInt8) (len off : Nat) (n : Nat) (g' : Option Nat) (row' : List UInt8) (len' off' : Nat) (lr' : Int) : Prop where
  buf : Buf w' b g' row' len' off' lr'
  reads : unread row' len' off' = unread row len off
  room : len' + n ≤ row'.length
  len_le : len' ≤ len
  cap : row.length ≤ row'.length
  keeps : len + n ≤ row.length → row'.length = row.length
  zero : off = 0 → len' = len ∧ off' = 0
  fr : Fr (b :: g.toList) w w'
  at_ : ∀ x, g' = some x → g = some x ∨ w.heap.size ≤ x

section
variable {b : Nat} {g : Option Nat} {row : List UInt8} {len off : Nat} {lr : Int} (w : World) (h : Buf w b g row len off lr)
include h
theorem Buffer_Grow (n : Nat) (hlim : len + n ≤ 140737488355328) : Calls Tryd.prog 45 #[.pointer (some ⟨b, 0, none⟩), .int .i64 (n : Int)] w fun e w' => ∃ (g' : Option Nat) (row' : List UInt8) (len' off' : Nat) (lr' : Int), e = .returned (.tuple #[]) ∧ Gro w w' b g row len off n g' row' len' off' lr' := by
  have hgr := Lib.hid (Buffer_grow w h n hlim)
  clear h
  go_enter Tryd.func45, Tryd.ntmps45
  go_wp2_with fail
  refine hgr.out.mono ?_
  rintro e w2 ⟨g2, row2, m, off2, lr2, rfl, hG⟩
  have hle2 := hG.buf.len_le
  have hcl2 := hG.buf.cap_le
  have c0 := hG.buf.c0
  have f0 := hG.buf.fz 0
  have hsl := fun W => run_cut_h (P := Tryd.prog) 22 5 Tryd.underlying22 size5 (g2.map fun g => ⟨g, 0, none⟩) (m + n) row2.length W m (by omega)
  have HG := Lib.hid hG
  clear hG
  go_wp2_with fail
  go_end0
  exact ⟨_, _, _, _, _, rfl, ⟨HG.out.buf.set0 m (by omega) HG.out.off_le, HG.out.reads, hle2, HG.out.m_le, HG.out.cap, HG.out.keeps, HG.out.zero, HG.out.fr.setCell (.inl (by simp)) _, HG.out.at_⟩⟩

omit h in
theorem Buffer_Grow_bad (w : World) (b : Nat) (a : Int) (ha : a < 0) : Calls Tryd.prog 45 #[.pointer (some ⟨b, 0, none⟩), .int .i64 a] w fun e w' => ∃ v, e = .panicked [{ v := .iface 9 v, recovered := false }] ∧ w = w' := by
  go_enter Tryd.func45, Tryd.ntmps45
  go_wp2_with fail
  exact ⟨rfl, _, rfl, rfl⟩
end

theorem grow_catch_panicking (p : Addr) (x : Bool) (u : TypeId) (pv : Value) (older : List PanicEntry) (w : World) (hc : w.cell? p = some (.bool x)) (hz : w.frozen? p = false) :
    CallsD Tryd.prog 56 #[.pointer (some p)] (.panicking ({ v := .iface u pv, recovered := false } :: older)) w fun e u' w' =>
      e = .returned (.tuple #[]) ∧ u' = .panicking ({ v := .iface u pv, recovered := true } :: older) ∧ w' = w.setCell p (.bool false) := by
  refine callsD_of_wpS Tryd.func56 rfl fun c₀ cs hu => ?_
  apply wpS_seq
  apply wpS_region
  simp [wpOpsS, go_sem, recoverD, hu, Tryd.ntmps56, Exit.thenS]
  refine wpS_cond (t := true) (by simp [Act.eval, Array.replicate]) ?_
  simp only [if_true]
  apply wpS_region
  simp [wpOpsS, go_sem, hc, hz, bodyPostS, results, Tryd.results56]

theorem grow_catch_idle (p : Addr) (w : World) :
    CallsD Tryd.prog 56 #[.pointer (some p)] .returning w fun e u' w' => e = .returned (.tuple #[]) ∧ u' = .returning ∧ w' = w := by
  refine callsD_of_wpS Tryd.func56 rfl fun c₀ cs hu => ?_
  apply wpS_seq
  apply wpS_region
  simp [wpOpsS, go_sem, recoverD, hu, Tryd.ntmps56, Exit.thenS]
  refine wpS_cond (t := false) (by simp [Act.eval, Array.replicate]) ?_
  simp only [Bool.false_eq_true, if_false]
  refine wpS_of_wp (wp_skip ?_)
  cases c₀
  simp_all [bodyPostS, results, Tryd.results56]

section
variable {b : Nat} {g : Option Nat} {row : List UInt8} {len off : Nat} {lr : Int} (w : World) (h : Buf w b g row len off lr)
include h
theorem impl_grow_bad (a : Int) (ha : a < 0) : Calls Tryd.prog 38 #[.pointer (some ⟨b, 0, none⟩), .int .i64 a] w fun e w' => e = .returned (.bool false) ∧ Buf w' b g row len off lr ∧ Fr [] w w' := by
  have hmf : ∀ (fn : Fn) (first cap : Array Value) (w : World), (Instr.makeFunc fn first cap).run Tryd.prog w = .ok (.func fn first cap) w := fun _ _ _ _ => rfl
  have hT := Lib.hid fun W => Buffer_Grow_bad W b a ha
  have HB := Lib.hid ((h.alloc (.cells #[.bool false] 4)).fr ((Fr.refl [w.heap.size] (w.alloc (.cells #[.bool false] 4))).setCell (p := ⟨w.heap.size, 0, none⟩) (.inl (by simp)) (.bool false)) (by have := h.blk.lt; simp; omega) (fun x e => by have := (h.some_ x e).2.lt; simp; omega))
  clear h ha
  go_enter_defers Tryd.func38, Tryd.ntmps38
  go_wp2_with fail
  refine (hT.out _).mono ?_
  rintro e w1 ⟨v, rfl, rfl⟩
  have hk := Blk.new w 4 #[.bool false]
  have hc := hk.cell 0
  have hz := hk.frozen 0
  go_wp2_with fail
  refine leaves_cons (f := 56) (args := #[.pointer (some ⟨w.heap.size, 0, none⟩)]) (by simp) (by simp [go_sem]) ?_
  refine (grow_catch_panicking ⟨w.heap.size, 0, none⟩ false 9 _ [] _ hc hz).mono ?_
  rintro e u' w'' ⟨rfl, rfl, rfl⟩
  have hfin := ((Fr.refl [] w).alloc (.cells #[.bool false] 4)).setCell (p := ⟨w.heap.size, 0, none⟩) (.inr (Nat.le_refl _)) (.bool false)
  have hall := And.intro HB.out hfin
  simp at hc
  simpa [Leaves, settle, results, Tryd.results38, go_sem, hc, hz] using hall

theorem impl_grow_ok (n : Nat) (hlim : len + n ≤ 140737488355328) : Calls Tryd.prog 38 #[.pointer (some ⟨b, 0, none⟩), .int .i64 (n : Int)] w fun e w' => ∃ (g' : Option Nat) (row' : List UInt8) (len' off' : Nat) (lr' : Int), e = .returned (.bool true) ∧ Gro w w' b g row len off n g' row' len' off' lr' := by
  have hmf : ∀ (fn : Fn) (first cap : Array Value) (w : World), (Instr.makeFunc fn first cap).run Tryd.prog w = .ok (.func fn first cap) w := fun _ _ _ _ => rfl
  have hT := Lib.hid fun o => Buffer_Grow _ (h.alloc o) n hlim
  have hb := h.blk.lt
  have hg : ∀ x, g = some x → x < w.heap.size := fun x e => (h.some_ x e).2.lt
  have HG := Lib.hid hg
  clear h hlim hg
  go_enter_defers Tryd.func38, Tryd.ntmps38
  go_wp2_with fail
  refine (hT.out _).mono ?_
  rintro e w1 ⟨g1, row1, len1, off1, lr1, rfl, hG⟩
  have hat := hG.at_
  simp only [World.size_alloc] at hat
  have hnb : w.heap.size ∉ b :: g.toList := fun hm => by
    rcases List.mem_cons.1 hm with h1 | h1
    · omega
    · simp only [Option.mem_toList] at h1; have := HG.out _ h1; omega
  have hk := (Blk.new w 4 #[.bool false]).fr hG.fr hnb
  have hc := hk.cell 0
  have hz := hk.frozen 0
  simp at hc
  have HB := Lib.hid (hG.buf.fr ((Fr.refl [w.heap.size] w1).setCell (p := ⟨w.heap.size, 0, none⟩) (.inl (by simp)) (.bool true)) (by simp; omega) (fun x e => by
    rcases hat x e with h1 | h1
    · have := HG.out x h1; simp; omega
    · simp; omega))
  have hfin := Lib.hid ((((Fr.refl (b :: g.toList) w).alloc (.cells #[.bool false] 4)).trans hG.fr).setCell (p := ⟨w.heap.size, 0, none⟩) (.inr (Nat.le_refl _)) (.bool true))
  have HGR := Lib.hid hG
  have HAT := Lib.hid hat
  clear hG hat
  go_wp2_with fail
  refine leaves_cons (f := 56) (args := #[.pointer (some ⟨w.heap.size, 0, none⟩)]) (by simp) (by simp [go_sem]) ?_
  refine (grow_catch_idle ⟨w.heap.size, 0, none⟩ _).mono ?_
  rintro e u' w'' ⟨rfl, rfl, rfl⟩
  refine ⟨.bool true, by simp [results, Tryd.results38, go_sem, hc], ?_⟩
  exact ⟨_, _, _, _, _, rfl, ⟨HB.out, HGR.out.reads, HGR.out.room, HGR.out.len_le, HGR.out.cap, HGR.out.keeps, HGR.out.zero, hfin.out, fun x e => by
    rcases HAT.out x e with h1 | h1
    · exact .inl h1
    · exact .inr (by omega)⟩⟩
end

theorem Bw.gro {W : Nat} {wr w2 : World} {b : Nat} {s : List UInt8} {g g2 : Option Nat} {row row2 : List UInt8} {len off len2 off2 n : Nat} {lr lr2 : Int} (h : Bw W wr b s g row len off lr) (hW : W ≤ wr.heap.size) (hp : Gro wr w2 b g row len off n g2 row2 len2 off2 lr2) : Bw W w2 b s g2 row2 len2 off2 lr2 :=
  ⟨hp.buf, by rw [hp.reads, h.reads], fun x e => by
    rcases hp.at_ x e with h1 | h1
    · exact h.new_ x h1
    · omega, h.b_⟩

theorem impl_GrowAndWrite (l : List UInt8) (n : Nat) (x : UInt8) (w : World) (hN : l.length ≤ 2097152) (hn : n ≤ 65535) :
    Calls Tryd.prog 23 #[.string ⟨l.toArray⟩, .int .u16 (n : Int), .int .u8 (x.toNat : Int)] w fun e w' => ∃ (c : Nat) (s : List UInt8), e = .returned (.tuple #[.int .i64 (c : Int), .int .i64 (c : Int), .string ⟨s.toArray⟩]) ∧ l.length + n ≤ c ∧ Hid (s = l ++ List.replicate n x) ∧ Fr [] w w' := by
  go_enter Tryd.func23, Tryd.ntmps23
  go_wp2_with fail
  refine (NewBufferString _ _ (by omega)).mono ?_
  rintro e w1 ⟨b, g1, pad, rfl, hB1, hf1, hb, hg⟩
  have hBw : Bw w.heap.size w1 b l (some g1) (l ++ pad) l.length 0 0 := ⟨hB1, by rw [unread_pad]; rfl, fun x e => by injection e with e; omega, hb⟩
  have h2 := Lib.hid (Buffer_Grow w1 hB1 n (by omega))
  have HB1 := Lib.hid hBw
  clear hBw hB1
  go_wp2_with fail
  refine h2.out.mono ?_
  rintro e w2 ⟨g2, row2, len2, off2, lr2, rfl, hG⟩
  obtain ⟨rfl, rfl⟩ := hG.zero rfl
  have hB2 := HB1.out.gro hf1.size hG
  have hf12 := HB1.out.fr_ hf1 rfl hG.fr (fun _ h => h)
  have hcap := hG.room
  have h3 := Lib.hid (Buffer_Cap w2 hG.buf)
  have HB2 := Lib.hid hB2
  clear hB2 hG
  go_wp2_with fail
  refine h3.out.mono ?_
  rintro e w3 ⟨rfl, rfl⟩
  generalize hC : row2.length = C at *
  have HC := Lib.hid hC
  clear hC
  go_wp2_with fail
  go_loopw [20] (fun i wr => ∃ k g row len lr, k ≤ n ∧ i = .int .u16 (k : Int) ∧ Bw w.heap.size wr b (l ++ List.replicate k x) g row len 0 lr ∧ Hid (row.length = C) ∧ Fr [] w wr) (fun i _ => n - (intOf i).toNat)
  case atStart => exact ⟨0, _, _, _, _, Nat.zero_le _, rfl, by simpa using HB2.out, HC, hf12⟩
  case round =>
    obtain ⟨k, g, row, len, lr, hk, rfl, hB, HR, hf⟩ := hrel
    by_cases hlt : k < n
    · have hlen := hB.len_
      simp at hlen
      have hw := Buffer_WriteByte wr hB.buf x (by omega)
      have HB := Lib.hid hB
      clear hB hlen
      go_wp2_with fail
      refine hw.mono ?_
      rintro e w4 ⟨g4, row4, len4, off4, rfl, hw4⟩
      go_wp2_with fail
      go_roundw
      case rel =>
        obtain rfl : off4 = 0 := (hw4.zero rfl).2
        refine ⟨k + 1, g4, row4, len4, 0, by omega, by go_num, ?_, ?_, HB.out.fr_ hf rfl hw4.fr (fun _ h => h)⟩
        · have := HB.out.put hf.size hw4
          rw [List.append_assoc, ← List.replicate_succ'] at this
          exact this
        · show _ = _
          have h5 := HB.out.len_
          have h6 := HR.out
          simp at h5
          rw [hw4.keeps (by simp; omega)]
          exact h6
      case measure => simp [intOf]; omega
    · obtain rfl : k = n := by omega
      have hc := Lib.hid (Buffer_Cap wr hB.buf)
      have hst := Lib.hid (Buffer_String wr hB.buf)
      have HB := Lib.hid hB
      clear hB
      go_wp2_with fail
      refine hc.out.mono ?_
      rintro e w4 ⟨rfl, rfl⟩
      go_wp2_with fail
      refine hst.out.mono ?_
      rintro e w5 ⟨s, rfl, H5, k5, rfl⟩
      rw [HR.out]
      go_wp2_with fail
      go_ret3
      exact ⟨C, s, rfl, hcap, by show _ = _; rw [H5.out, HB.out.reads], hf.drewN _⟩

end Go.Proofs.YtgniidnbpkhmcaaDoor
