/- A buffer that reads from a source. -/
import Derived.Test.YtgjaeggpaomoaaaDoorSrce
import Derived.Test.YtgjaeggpaomoaaaDoorLawW
namespace Go.Proofs.YtgjaeggpaomoaaaDoor
open Go.RowKit
set_option linter.unusedVariables false
attribute [local go_sem ↓] Go.wp_at_zero Go.wp_at_succ

theorem nil_source (f : Nat) (a : Addr) (w : World) : (nilAhead (f + 1) 71 (.pointer (some a)) "Read").run Tryd.prog w = .ok (some false) w := by kernel_rfl
theorem method_source (f : Nat) (a : Addr) (w : World) : (method (f + 1) 71 (.pointer (some a)) "Read").run Tryd.prog w = .ok (115, .pointer (some a)) w := by kernel_rfl
theorem broken_eof (a : Addr) (w : World) : (binOp .eql 68 (.iface 75 (.agg #[])) (.iface 137 (.pointer (some a)))).run Tryd.prog w = .ok (.bool false) w := by kernel_rfl
theorem broken_nil (w : World) : (binOp .neq 68 (.iface 75 (.agg #[])) .nilIface).run Tryd.prog w = .ok (.bool true) w := by kernel_rfl
theorem nil_eof (a : Addr) (w : World) : (binOp .eql 68 .nilIface (.iface 137 (.pointer (some a)))).run Tryd.prog w = .ok (.bool false) w := by kernel_rfl
theorem nil_neq_nil (w : World) : (binOp .neq 68 .nilIface .nilIface).run Tryd.prog w = .ok (.bool false) w := by kernel_rfl

theorem Buf.rowS {w w' : World} {b g : Nat} {row row' : List UInt8} {len off : Nat} {lr : Int} {S : List Nat} (h : Buf w b (some g) row len off lr) (hR : Row w' g row') (hf : Fr S w w') (hb : b ∉ S) (hl : row'.length = row.length) : Buf w' b (some g) row' len off lr := by
  obtain ⟨hne, _⟩ := h.some_ g rfl
  refine ⟨?_, h.off_le, by rw [hl]; exact h.len_le, by rw [hl]; exact h.cap_le, by simp, ?_⟩
  · rw [hl]
    exact h.blk.fr hf hb
  · rintro x ⟨⟩
    exact ⟨hne, hR⟩

/-- Where ReadFrom's loop stands: d is read. -/
def FromRel (w0 : World) (b k gs : Nat) (l all : List UInt8) (f h : Bool) (a : Addr) (v : Value) (wr : World) : Prop :=
  ∃ (d : List UInt8) (cs : List (List UInt8)) (g : Option Nat) (row : List UInt8) (len : Nat), v = .int .i64 (d.length : Int) ∧ Bw w0.heap.size wr b (l ++ d) g row len 0 0 ∧ Srce wr k gs f h cs ∧ Hid (d ++ cs.flatten = all ∧ ∀ x ∈ cs, x.length ≤ 9223372036854775807) ∧ Eof wr a ∧ Fr [] w0 wr
/-- What a round has. -/
structure FromOk (w0 : World) (b k gs : Nat) (l d d' : List UInt8) (w4 : World) (y : Nat) (row : List UInt8) (len : Nat) (f h : Bool) (cs' : List (List UInt8)) (a : Addr) : Prop where
  buf : Buf w4 b (some y) row len 0 0
  fits : len + d'.length ≤ row.length
  reads : unread row (len + d'.length) 0 = l ++ (d ++ d')
  new_ : w0.heap.size ≤ y
  b_ : w0.heap.size ≤ b
  srce : Srce w4 k gs f h cs'
  eof : Eof w4 a
  fr : Fr [] w0 w4
theorem FromOk.done {w0 : World} {b k gs : Nat} {l d d' : List UInt8} {w4 : World} {y : Nat} {row : List UInt8} {len : Nat} {f h : Bool} {cs' : List (List UInt8)} {a : Addr} (H : FromOk w0 b k gs l d d' w4 y row len f h cs' a) (hkb : k ≠ b) (hgb : gs ≠ b) (hE0 : 1 < w0.heap.size) (v : Value) (hv : v = .slice (some ⟨y, 0, none⟩) (len + d'.length) row.length) :
    Bw w0.heap.size (w4.setCell ⟨b, 0, none⟩ v) b (l ++ (d ++ d')) (some y) row (len + d'.length) 0 0 ∧ Srce (w4.setCell ⟨b, 0, none⟩ v) k gs f h cs' ∧ Eof (w4.setCell ⟨b, 0, none⟩ v) a ∧ Fr [] w0 (w4.setCell ⟨b, 0, none⟩ v) := by
  subst hv
  have hfs : Fr [b] w4 (w4.setCell ⟨b, 0, none⟩ (.slice (some ⟨y, 0, none⟩) (len + d'.length) row.length)) := (Fr.refl [b] w4).setCell (.inl (by simp)) _
  have hb := H.b_
  exact ⟨⟨H.buf.set0 _ H.fits (Nat.zero_le _), H.reads, fun x e => by injection e with e; rw [← e]; exact H.new_, H.b_⟩, H.srce.fr hfs (by simpa using hkb) (fun _ _ => by simpa using hgb), H.eof.fr hfs (by simp; omega), H.fr.trans_of hfs (by simp; omega)⟩

set_option maxHeartbeats 6400000 in
set_option maxRecDepth 100000 in
theorem Buffer_ReadFrom (w0 w : World) (b k gs : Nat) (g : Option Nat) (row : List UInt8) (len : Nat) (lr : Int) (l : List UInt8) (cs : List (List UInt8)) (f h : Bool) (a : Addr) (hB : Bw w0.heap.size w b l g row len 0 lr) (hS : Srce w k gs f h cs) (hk : w0.heap.size ≤ k) (hgs : w0.heap.size ≤ gs) (hkb : k ≠ b) (hgb : gs ≠ b)
    (hE : Eof w a) (hE0 : 1 < w0.heap.size) (hf : Fr [] w0 w) (all : List UInt8) (hall : cs.flatten = all) (hN : l.length + all.length ≤ 2097152) (hcl : ∀ x ∈ cs, x.length ≤ 9223372036854775807) :
    Calls Tryd.prog 30 #[.pointer (some ⟨b, 0, none⟩), .iface 71 (.pointer (some ⟨k, 0, none⟩))] w fun e w' => ∃ (g' : Option Nat) (row' : List UInt8) (len' n : Nat), e = .returned (.tuple #[.int .i64 (n : Int), if f then .iface 75 (.agg #[]) else .nilIface]) ∧ Hid (n = all.length) ∧ Bw w0.heap.size w' b (l ++ all) g' row' len' 0 0 ∧ Fr [] w0 w' := by
  have q1 := broken_eof
  have q2 := broken_nil
  have q3 := nil_eof
  have q4 := nil_neq_nil
  have q5 := run_eql_eof
  have c2 := hB.buf.c2
  have f2 := hB.buf.fz 2
  have hbb := hB.b_
  have hfs : Fr [b] w (w.setCell ⟨b, 2, none⟩ (.int .i8 0)) := (Fr.refl [b] w).setCell (.inl (by simp)) _
  have hst : FromRel w0 b k gs l all f h a (.int .i64 0) (w.setCell ⟨b, 2, none⟩ (.int .i8 0)) :=
    ⟨[], cs, g, row, len, rfl, ⟨hB.buf.set2 0, by rw [List.append_nil]; exact hB.reads, hB.new_, hB.b_⟩, hS.fr hfs (by simpa using hkb) (fun _ _ => by simpa using hgb), ⟨by simpa using hall, hcl⟩, hE.fr hfs (by simp; omega), hf.trans_of hfs (by simp; omega)⟩
  have HST := Lib.hid hst
  clear hB hS hE hf hst hfs hall
  go_enter Tryd.func30, Tryd.ntmps30
  go_wp2_with fail
  go_loopw [4] (fun v wr => FromRel w0 b k gs l all f h a v wr) (fun v wr => (all.length - (intOf v).toNat) + lenAt wr k)
  case atStart => exact HST.out
  case round =>
    obtain ⟨d, cs1, g1, row1, len1, rfl, hB, hS, HD, hE, hfw⟩ := hrel
    have hlen := hB.len_
    simp only [List.length_append, Nat.sub_zero] at hlen
    have hdl : d.length ≤ all.length := by have := congrArg List.length HD.out.1; simp only [List.length_append] at this; omega
    have hG := Lib.hid (Buffer_grow wr hB.buf 512 (by omega))
    have HB := Lib.hid hB
    have HS := Lib.hid hS
    have HE := Lib.hid hE
    have hl21 : len1 ≤ 2097152 := by omega
    have HLEN := Lib.hid hlen
    clear hB hS hE hlen
    go_wp2_with fail
    refine hG.out.mono ?_
    rintro e w2 ⟨g2, row2, m, off2, lr2, rfl, hg2⟩
    obtain ⟨rfl, rfl⟩ := hg2.zero rfl
    obtain rfl : lr2 = 0 := by rcases hg2.lr_ with h1 | h1 <;> exact h1
    have hb2 := hg2.buf
    have hl2 := hb2.len_le
    have hcap2 := hb2.cap_le
    obtain ⟨y, rfl⟩ : ∃ y, g2 = some y := by
      cases g2 with
      | none => have := hb2.none_ rfl; rw [this] at hl2; simp at hl2
      | some y => exact ⟨y, rfl⟩
    have c0 := hb2.c0
    have f0 := hb2.fz 0
    have hb3 := hb2.set0 m (by omega) (Nat.zero_le _)
    simp only [Option.map_some] at c0 hb3
    have hsl := fun W => run_cut_h (P := Tryd.prog) 22 5 Tryd.underlying22 size5 (some ⟨y, 0, none⟩) (m + 512) row2.length W m (by omega)
    have hyb := (hb2.some_ y rfl).1
    have hfr3 : Fr [b] w2 (w2.setCell ⟨b, 0, none⟩ (.slice (some ⟨y, 0, none⟩) m row2.length)) := (Fr.refl [b] w2).setCell (.inl (by simp)) _
    have hfr13 : Fr (b :: g1.toList) wr (w2.setCell ⟨b, 0, none⟩ (.slice (some ⟨y, 0, none⟩) m row2.length)) := hg2.fr.trans (hfr3.more (by simp))
    have hgk1 : ∀ x, g1 = some x → x ≠ k ∧ ∀ arr, Blk wr gs 9 arr → x ≠ gs := fun x e => by
      have hr := (HB.out.buf.some_ x e).2
      obtain ⟨A, n, c, h1, _⟩ := HS.out
      exact ⟨row_ne_blk hr h1 (by decide), fun arr ha => row_ne_blk hr ha (by decide)⟩
    have hS3 : Srce (w2.setCell ⟨b, 0, none⟩ (.slice (some ⟨y, 0, none⟩) m row2.length)) k gs f h cs1 := HS.out.fr hfr13 (by
      simp only [List.mem_cons, Option.mem_toList]
      rintro (e | e)
      · exact hkb e
      · exact (hgk1 _ e).1 rfl) (fun arr ha => by
      simp only [List.mem_cons, Option.mem_toList]
      rintro (e | e)
      · exact hgb e
      · exact (hgk1 _ e).2 arr ha rfl)
    have hE3 : Eof (w2.setCell ⟨b, 0, none⟩ (.slice (some ⟨y, 0, none⟩) m row2.length)) a := HE.out.fr hfr13 (by
      simp only [List.mem_cons, Option.mem_toList]
      rintro (e | e)
      · omega
      · have := HB.out.new_ _ e
        omega)
    have hfw3 : Fr [] w0 (w2.setCell ⟨b, 0, none⟩ (.slice (some ⟨y, 0, none⟩) m row2.length)) := hfw.trans_of hfr13 (by
      simp only [List.mem_cons, Option.mem_toList]
      rintro i (e | e)
      · exact .inr (by omega)
      · exact .inr (HB.out.new_ _ e))
    have hynew : w0.heap.size ≤ y := by
      rcases hg2.at_ y rfl with e | e
      · exact HB.out.new_ y e
      · exact Nat.le_trans hfw.size e
    have hrd3 : unread row2 m 0 = l ++ d := by rw [hg2.reads, HB.out.reads]
    have HRD := Lib.hid hrd3
    clear hg2 hb2 hfr3 hfr13 hgk1 hrd3
    go_wp2_with fail
    generalize w2.setCell ⟨b, 0, none⟩ (.slice (some ⟨y, 0, none⟩) m row2.length) = w3 at *
    have c3 := hb3.c0
    simp only [Option.map_some] at c3
    have hsl3 := fun W => run_cut_lh (P := Tryd.prog) 22 5 Tryd.underlying22 size5 (some ⟨y, 0, none⟩) m row2.length W m row2.length (by omega) (by omega)
    have hnil := nil_source
    have hmet := method_source
    have hyk : y ≠ k := by
      obtain ⟨A, n, c, h1, _⟩ := hS3
      exact row_ne_blk (hb3.some_ y rfl).2 h1 (by decide)
    have hd3 : Fr [] w3 w3.drew := (Fr.refl [] w3).drew
    have hout : Hid (∀ (d' : List UInt8) (cs' : List (List UInt8)) (w4 : World), d'.length ≤ row2.length - m → SRead w3.drew w4 k gs y f h cs' row2 (over row2 m d') → FromOk w0 b k gs l d d' w4 y (over row2 m d') m f h cs' a) := by
      intro d' cs' w4 hd' hs
      have hol : (over row2 m d').length = row2.length := over_length _ _ _ (by omega)
      have hf4 : Fr [k, gs, y] w3 w4 := (hd3.more (by simp)).trans hs.fr
      refine ⟨hb3.rowS hs.row hf4 (by simp only [List.mem_cons, List.not_mem_nil, or_false]; omega) hol, by rw [hol]; omega, ?_, hynew, hbb, hs.srce, hE3.fr hf4 (by simp only [List.mem_cons, List.not_mem_nil, or_false]; omega), hfw3.trans_of hf4 (by simp only [List.mem_cons, List.not_mem_nil, or_false]; rintro i (rfl | rfl | rfl) <;> exact .inr (by omega))⟩
      rw [unread_put row2 d' m 0 _ rfl (by omega) (Nat.zero_le _), HRD.out, List.append_assoc]
    rcases source_Read w3.drew k gs y f h a cs1 (hS3.fr hd3 (by simp) (by simp)) (hE3.fr hd3 (by simp)) row2 ((hb3.some_ y rfl).2.fr hd3 (by simp)) m (row2.length - m) (by omega) (by omega) HD.out.2 with ⟨d', cs', ⟨h1, h2, h3, h4⟩, hC⟩ | ⟨d', ⟨h1, h2⟩, hC⟩
    · have hdd : d.length + d'.length ≤ 2097152 := by
        have e1 := congrArg List.length HD.out.1
        have e2 := congrArg List.length h2
        simp only [List.length_append] at e1 e2
        omega
      have HC := Lib.hid hC
      have H2 := Lib.hid h2
      have H3 := Lib.hid h3
      have H4 := Lib.hid h4
      have hlw := HS.out.lenAt
      have HLW := Lib.hid hlw
      clear hC h2 h3 h4 hS3 hE3 hb3 HRD hlw
      go_wp2_with fail
      go_region_with ((go_at_call 115; ((with_reducible refine HC.out.mono ?_); rintro e w4 ⟨rfl, hs⟩; have hok := hout.out d' cs' w4 h1 hs; have c4 := hok.buf.c0; have f4 := hok.buf.fz 0; simp only [Option.map_some] at c4; have hE4 : ∀ v, (w4.setCell ⟨b, 0, none⟩ v).cell? ⟨1, 0, none⟩ = some (.iface 137 (.pointer (some a))) := (fun v => hok.eof.fr ((Fr.refl [b] w4).setCell (.inl (by simp)) v) (by simp; omega)); have hsl4 := (fun W => run_cut_h (P := Tryd.prog) 22 5 Tryd.underlying22 size5 (some ⟨y, 0, none⟩) m (over row2 m d').length W (m + d'.length) hok.fits); rw [Int.natCast_add] at hsl4; have HOK := Lib.hid hok; clear hok hs)))
      all_goals
        go_wp2_with fail
        go_roundw
        case rel =>
          obtain ⟨x1, x2, x3, x4⟩ := HOK.out.done hkb hgb hE0 _ rfl
          exact ⟨d ++ d', cs', some y, _, _, vint (by simp), x1, x2, ⟨by rw [List.append_assoc, H2.out]; exact HD.out.1, H4.out⟩, x3, x4⟩
        case measure =>
          obtain ⟨x1, x2, x3, x4⟩ := HOK.out.done hkb hgb hE0 _ rfl
          have e3 := x2.lenAt
          have e1 := congrArg List.length HD.out.1
          have e2 := congrArg List.length H2.out
          simp only [List.length_append] at e1 e2
          have h3 := H3.out
          have h0 := HLW.out
          simp [intOf] at *
          omega
    · have hdd : d.length + d'.length ≤ 2097152 := by
        have e1 := congrArg List.length HD.out.1
        rw [← h2] at e1
        simp only [List.length_append] at e1
        omega
      have HC := Lib.hid hC
      have H2 := Lib.hid h2
      clear hC h2 hS3 hE3 hb3 HRD
      cases f
      · unfold endV at HC
        simp only [Bool.false_eq_true, if_false] at HC
        go_wp2_with fail
        go_region_with ((go_at_call 115; ((with_reducible refine HC.out.mono ?_); rintro e w4 ⟨rfl, hs⟩; have hok := hout.out d' [] w4 h1 hs; have c4 := hok.buf.c0; have f4 := hok.buf.fz 0; simp only [Option.map_some] at c4; have hE4 : ∀ v, (w4.setCell ⟨b, 0, none⟩ v).cell? ⟨1, 0, none⟩ = some (.iface 137 (.pointer (some a))) := (fun v => hok.eof.fr ((Fr.refl [b] w4).setCell (.inl (by simp)) v) (by simp; omega)); have hsl4 := (fun W => run_cut_h (P := Tryd.prog) 22 5 Tryd.underlying22 size5 (some ⟨y, 0, none⟩) m (over row2 m d').length W (m + d'.length) hok.fits); rw [Int.natCast_add] at hsl4; have HOK := Lib.hid hok; clear hok hs)))
        all_goals
          go_wp2_with fail
          go_ret2
          obtain ⟨x1, x2, x3, x4⟩ := HOK.out.done hkb hgb hE0 _ rfl
          have e1 := HD.out.1
          rw [← H2.out] at e1
          rw [← e1]
          exact ⟨_, _, _, d.length + d'.length, by simp, (show d.length + d'.length = (d ++ d').length from (List.length_append).symm), x1, x4⟩
      · unfold endV at HC
        simp only [if_true] at HC
        go_wp2_with fail
        go_region_with ((go_at_call 115; ((with_reducible refine HC.out.mono ?_); rintro e w4 ⟨rfl, hs⟩; have hok := hout.out d' [] w4 h1 hs; have c4 := hok.buf.c0; have f4 := hok.buf.fz 0; simp only [Option.map_some] at c4; have hE4 : ∀ v, (w4.setCell ⟨b, 0, none⟩ v).cell? ⟨1, 0, none⟩ = some (.iface 137 (.pointer (some a))) := (fun v => hok.eof.fr ((Fr.refl [b] w4).setCell (.inl (by simp)) v) (by simp; omega)); have hsl4 := (fun W => run_cut_h (P := Tryd.prog) 22 5 Tryd.underlying22 size5 (some ⟨y, 0, none⟩) m (over row2 m d').length W (m + d'.length) hok.fits); rw [Int.natCast_add] at hsl4; have HOK := Lib.hid hok; clear hok hs)))
        all_goals
          go_wp2_with fail
          go_ret2
          obtain ⟨x1, x2, x3, x4⟩ := HOK.out.done hkb hgb hE0 _ rfl
          have e1 := HD.out.1
          rw [← H2.out] at e1
          rw [← e1]
          exact ⟨_, _, _, d.length + d'.length, by simp, (show d.length + d'.length = (d ++ d').length from (List.length_append).symm), x1, x4⟩

end Go.Proofs.YtgjaeggpaomoaaaDoor
