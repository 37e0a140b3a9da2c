/- A script of any calls on a buffer, that lies anywhere. -/
import Derived.Test.YtgjaeggpaomoaaaDoorRun
import Derived.Test.YtgjaeggpaomoaaaDoorRg
namespace Go.Proofs.YtgjaeggpaomoaaaDoor
open Go.RowKit
set_option linter.unusedVariables false
attribute [local go_sem ↓] Go.wp_at_zero Go.wp_at_succ

set_option maxHeartbeats 4000000 in
set_option maxRecDepth 100000 in
theorem call_none {W b : Nat} {s : Sta} {g : Option Nat} {row : List UInt8} {len off : Nat} {lr : Int} (w : World) (h : Scr W w b s g row len off lr) (o : OpV) (hk : o.kind ∉ kinds) : Calls Tryd.prog 29 #[.pointer (some ⟨b, 0, none⟩), o.val] w (CallPost W b s o g len w) := by
  simp only [kinds, List.mem_cons, List.not_mem_nil, or_false, not_or] at hk
  obtain ⟨q0, q1, q2, q3, q4, q5, q6, q7, q8, q9, q10, q11, q12, q13, q14, q15, q16, q17, q18⟩ := hk
  have HM := Lib.hid (callM_none s o q0 q1 q2 q3 q4 q5 q6 q7 q8 q9 q10 q11 q12 q13 q14 q15 q16 q17 q18)
  obtain ⟨kind, text, size, n, char⟩ := o
  simp only at q0 q1 q2 q3 q4 q5 q6 q7 q8 q9 q10 q11 q12 q13 q14 q15 q16 q17 q18
  have b0 : (kind == [119, 114, 105, 116, 101]) = false := by simpa using q0
  have b1 : (kind == [119, 114, 105, 116, 101, 115, 116, 114, 105, 110, 103]) = false := by simpa using q1
  have b2 : (kind == [119, 114, 105, 116, 101, 98, 121, 116, 101]) = false := by simpa using q2
  have b3 : (kind == [119, 114, 105, 116, 101, 114, 117, 110, 101]) = false := by simpa using q3
  have b4 : (kind == [108, 101, 110]) = false := by simpa using q4
  have b5 : (kind == [98, 121, 116, 101, 115]) = false := by simpa using q5
  have b6 : (kind == [115, 116, 114, 105, 110, 103]) = false := by simpa using q6
  have b7 : (kind == [116, 114, 117, 110, 99, 97, 116, 101]) = false := by simpa using q7
  have b8 : (kind == [114, 101, 115, 101, 116]) = false := by simpa using q8
  have b9 : (kind == [103, 114, 111, 119]) = false := by simpa using q9
  have b10 : (kind == [114, 101, 97, 100]) = false := by simpa using q10
  have b11 : (kind == [110, 101, 120, 116]) = false := by simpa using q11
  have b12 : (kind == [112, 101, 101, 107]) = false := by simpa using q12
  have b13 : (kind == [114, 101, 97, 100, 98, 121, 116, 101]) = false := by simpa using q13
  have b14 : (kind == [114, 101, 97, 100, 98, 121, 116, 101, 115]) = false := by simpa using q14
  have b15 : (kind == [114, 101, 97, 100, 115, 116, 114, 105, 110, 103]) = false := by simpa using q15
  have b16 : (kind == [114, 101, 97, 100, 114, 117, 110, 101]) = false := by simpa using q16
  have b17 : (kind == [117, 110, 114, 101, 97, 100, 98, 121, 116, 101]) = false := by simpa using q17
  have b18 : (kind == [117, 110, 114, 101, 97, 100, 114, 117, 110, 101]) = false := by simpa using q18
  clear q0 q1 q2 q3 q4 q5 q6 q7 q8 q9 q10 q11 q12 q13 q14 q15 q16 q17 q18
  have H := Lib.hid h
  clear h
  unfold OpV.val
  go_enter Tryd.func29, Tryd.ntmps29
  go_wp2_with fail
  refine bodyPost_ret (v := .agg #[.string ⟨#[]⟩, .int .i64 0, .int .i32 0, .string ⟨#[]⟩]) (by simp [results, Tryd.results29, go_sem]) rfl ?_
  have hfs : ∀ w3, Fr [] w w3 → CallPost W b s _ g len w (.returned (.agg #[.string ⟨#[]⟩, .int .i64 0, .int .i32 0, .string ⟨#[]⟩])) w3 := fun w3 hf3 =>
    (callPost_free zst (by rw [HM.out]) (hf3.more (by simp)) (H.out.fr hf3 (by simp) (by simp)) (by show len ≤ len + text.length + 4; omega) :)
  exact hfs _ (by repeat' first | with_reducible exact Fr.refl _ _ | with_reducible refine Fr.alloc ?_ _ | refine Fr.setCell ?_ (.inr (by simp)) _)

theorem impl_callX {W b : Nat} {s : Sta} {g : Option Nat} {row : List UInt8} {len off : Nat} {lr : Int} (w : World) (h : Scr W w b s g row len off lr) (hWw : W ≤ w.heap.size) (o : OpV) (a c : Addr) (hV : Env W w a c) (ho : o.Ok)
    (hlim : len + o.text.length + 4 ≤ 1048576) (hgrow : o.kind = k_grow → o.n ≤ 1048576) : Calls Tryd.prog 29 #[.pointer (some ⟨b, 0, none⟩), o.val] w (CallPost W b s o g len w) := by
  have hl := h.bw.len_
  by_cases hk : o.kind ∈ kinds
  case neg => exact call_none w h o hk
  unfold kinds at hk
  simp only [List.mem_cons, List.not_mem_nil, or_false] at hk
  rcases hk with e | e | e | e | e | e | e | e | e | e | e | e | e | e | e | e | e | e | e
  · exact call_write w h hWw o e ho (by omega)
  · exact call_writestring w h hWw o e ho (by omega)
  · exact call_writebyte w h hWw o e ho (by omega)
  · exact call_writerune w h hWw o e ho (by omega)
  · exact call_len w h hWw o e
  · exact call_bytes w h hWw o e
  · exact call_string w h hWw o e
  · by_cases hb : o.n < 0 ∨ (s.text.length : Int) < o.n
    · exact call_truncate_bad w h hWw o e hb
    · exact call_truncate_ok w h hWw o e hb
  · exact call_reset w h hWw o e
  · by_cases hb : o.n < 0
    · exact call_grow_bad w h hWw o e hb
    · exact call_grow_ok w h hWw o e hb (by have := hgrow e; omega)
  · exact call_read w h hWw o e a c hV ho
  · exact call_next w h hWw o e ho
  · exact call_peek w h hWw o e a c hV ho
  · by_cases hb : s.text = []
    · exact call_readbyte_eof w h hWw o e a c hV hb
    · exact call_readbyte_some w h hWw o e a c hV hb
  · exact call_readbytes w h hWw o e a c hV ho (by omega)
  · exact call_readstring w h hWw o e a c hV ho
  · by_cases hb : s.text = []
    · exact call_readrune_eof w h hWw o e a c hV hb
    · exact call_readrune_some w h hWw o e a c hV hb
  · by_cases hb : lr = 0
    · exact call_unreadbyte_no w h hWw o e a c hV hb
    · exact call_unreadbyte_yes w h hWw o e hb
  · by_cases hb : lr ≤ 0
    · exact call_unreadrune_no w h hWw o e a c hV hb
    · obtain ⟨q, hq⟩ : ∃ q : Nat, lr = (q : Int) := ⟨lr.toNat, by omega⟩
      have h4 := h.rec_.le4
      exact call_unreadrune_yes w h hWw o e q hq (by omega) (by omega)


set_option maxHeartbeats 4000000 in
set_option maxRecDepth 100000 in
theorem impl_RunBufferX (l : List UInt8) (A : Option Addr) (n c0 : Nat) (ops : List OpV) (w : World) (a c : Addr) (hV : Env w.heap.size w a c) (hS : Rg w A n 5 (ops.flatMap OpV.cells)) (hn : n = ops.length) (hN : l.length + tsum ops + n ≤ 1048576)
    (hok : ∀ o ∈ ops, o.Ok ∧ (o.kind = k_grow → o.n ≤ 1048576)) :
    Calls Tryd.prog 15 #[.string ⟨l.toArray⟩, .slice A n c0] w fun e w' => ∃ (B : Option Addr) (m d : Nat) (sts : List StV), e = .returned (.slice B m d) ∧ Rs w' B m 4 (sts.flatMap StV.cells) ∧ m = sts.length ∧ m ≤ n ∧ Hid (runM (sta0 l) ops <+: sts ∧ (okM (sta0 l) ops = true → sts = runM (sta0 l) ops)) ∧ Fr [] w w' := by
  have HN := Lib.hid hn
  have HV := Lib.hid hV
  have HOK := Lib.hid hok
  clear hn hV hok
  go_enter Tryd.func15, Tryd.ntmps15
  go_wp2_with fail
  refine (NewBufferString _ _ (by omega)).mono ?_
  rintro e w1 ⟨b, g, pad, rfl, hB, hf, hb, hg⟩
  go_wp2_with fail
  go_loopw [6, 15] (fun v i wr => RunBRel w b l ops v i wr) (fun _ i _ => n - (intOf i).toNat)
  case atStart =>
    refine ⟨0, sta0 l, [], _, _, _, _, _, Nat.zero_le _, rfl, own_empty_from w1 w.heap.size 36 4 hf.size, rfl, ⟨⟨hB.alloc _, by rw [unread_pad]; rfl, fun x e => by injection e with e; omega, hb⟩, by simp [RecOk, sta0]⟩, ?_, .inl ⟨by simp, by simp⟩, hf.alloc _⟩
    show _ ≤ _
    omega
  case round =>
    obtain ⟨k, s, sts, g, row, len, off, lr, hk, rfl, ho, HL, hSc, HLE, HST, hf1⟩ := hrel
    obtain ⟨A', c', rfl⟩ := own_form ho
    by_cases hlt : k < n
    · obtain ⟨o, hox⟩ : ∃ o, ops[k]? = some o := ⟨_, List.getElem?_eq_getElem (by have := HN.out; omega)⟩
      obtain ⟨ad, rfl, cg0, cg⟩ := (hS.fr_old hf1 (by simp)).get (by omega)
      have g5 := fun j h => recs_get OpV.cells 5 (fun _ => rfl) ops k j o hox h
      have x0 := cg0 _ _ ((g5 0 (by omega)).trans rfl)
      have x1 := cg _ 0 _ ((g5 1 (by omega)).trans rfl)
      have x2 := cg _ 1 _ ((g5 2 (by omega)).trans rfl)
      have x3 := cg _ 2 _ ((g5 3 (by omega)).trans rfl)
      have x4 := cg _ 3 _ ((g5 4 (by omega)).trans rfl)
      simp only [Nat.add_zero, Nat.zero_add, Nat.reduceAdd] at x0 x1 x2 x3 x4
      have ht := tsum_le ops k o hox
      have hle := HLE.out
      obtain ⟨ok1, ok2⟩ := HOK.out o (List.mem_of_getElem? hox)
      have hcall := Lib.hid fun ob => impl_callX (wr.alloc ob) (hSc.alloc ob) (by have := hf1.size; simp; omega) o a c (HV.out.fr (hf1.alloc ob) (by simp)) ok1 (by omega) ok2
      have HSC := Lib.hid hSc
      have hne := hSc.bw.own_ne ho (by decide) (by decide)
      have HOX := Lib.hid hox
      have HT := Lib.hid ht
      clear cg0 cg g5 ok1 ok2 hox hSc ht hle
      unfold OpV.val at hcall
      go_wp2_with fail
      refine (hcall.out _).mono ?_
      rintro e w2 ⟨st, rfl, HS2, hf2, HS3⟩
      have hf02 : Fr (b :: g.toList) wr w2 := ((Fr.refl _ wr).alloc _).trans hf2
      have hfw : Fr [] w w2 := HSC.out.bw.fr_ hf1 rfl hf02 (fun _ h => h)
      have ho2 := hf02.own ho hne
      have hsz : w.heap.size ≤ w2.heap.size := hfw.size
      obtain ⟨v', w', hrun, ho', hg', hb'⟩ := run_app (P := Tryd.prog) ((w2.alloc (.cells #[.string ⟨st.text.toArray⟩, .int .i64 st.n, .int .i32 st.char, .string ⟨st.err.toArray⟩] 36)).alloc (.cells #[.string ⟨st.text.toArray⟩, .int .i64 st.n, .int .i32 st.char, .string ⟨st.err.toArray⟩] 36)) w.heap.size 32 32 32 36 _ 4 48 Tryd.underlying32 infoS rfl (by decide) _ _ _ ((ho2.alloc _).alloc _) _ 1 _
        (src_blk (w2.alloc (.cells #[.string ⟨st.text.toArray⟩, .int .i64 st.n, .int .i32 st.char, .string ⟨st.err.toArray⟩] 36)) #[.string ⟨st.text.toArray⟩, .int .i64 st.n, .int .i32 st.char, .string ⟨st.err.toArray⟩] 36 36 32 Tryd.underlying32 4 rfl (by simp [Value.oneCell']) 1) (by omega) (by omega) (by simp; omega)
      rw [show (w2.alloc (.cells #[.string ⟨st.text.toArray⟩, .int .i64 st.n, .int .i32 st.char, .string ⟨st.err.toArray⟩] 36)).heap.size = w2.heap.size + 1 by simp] at hrun
      have hk9 := ((Blk.new w2 36 #[.string ⟨st.text.toArray⟩, .int .i64 st.n, .int .i32 st.char, .string ⟨st.err.toArray⟩]).alloc (.cells #[.string ⟨st.text.toArray⟩, .int .i64 st.n, .int .i32 st.char, .string ⟨st.err.toArray⟩] 36)).fr (Fr.of_grown hg') (by simp only [Option.mem_toList]; intro hm; have := (ho2.lt _ hm).2; omega)
      have hc9 : w'.cell? ⟨w2.heap.size, 3, none⟩ = some (.string ⟨st.err.toArray⟩) := hk9.cell 3
      have hfr' : Fr [] w w' := ((hfw.alloc _).alloc _).grown hg' (fun y hy => .inr ((ho2.lt y hy).1))
      obtain ⟨A2, c2, rfl⟩ := own_form ho'
      have ho3 : w'.ownsRow w.heap.size 36 4 (.slice A2 (k + 1) c2) (k + 1) ((sts ++ [st]).flatMap StV.cells) := by rw [recs_snoc]; exact ho'
      have HO3 := Lib.hid ho3
      have HO2 := Lib.hid ho2
      clear hk9 ho' ho3 ho2 hb'
      by_cases hp : st.err = e_panic
      · have hpb : (st.err == [112, 97, 110, 105, 99]) = true := by rw [hp]; rfl
        have HP := Lib.hid hp
        clear hp
        go_wp2_with (at_builtin; refine wpList_append_run rfl _ _ _ _ rfl rfl rfl hrun ?_)
        go_ret
        have hd := HST.out.panic HOX.out HS2.out HP.out
        exact ⟨_, _, _, sts ++ [st], rfl, own_rs HO3.out, by simp [HL.out], by omega, hd, hfr'⟩
      · have hpb : (st.err == [112, 97, 110, 105, 99]) = false := by simpa using hp
        have HP := Lib.hid hp
        clear hp
        go_wp2_with (at_builtin; refine wpList_append_run rfl _ _ _ _ rfl rfl rfl hrun ?_)
        go_roundw
        case rel =>
          rcases HS3.out with h1 | ⟨s', g', row', len', off', lr', h1, h2, h3⟩
          · exact absurd h1 HP.out
          · refine ⟨k + 1, s', sts ++ [st], g', row', len', off', lr', by have := HN.out; omega, by go_num, HO3.out, by show _ = _; simp [HL.out], ⟨(h1.bw.alloc _).app (HO2.out.alloc _) hg' (by decide) (by decide), h1.rec_⟩, ?_, HST.out.next HOX.out HS2.out h2 HP.out, hfr'⟩
            show _ ≤ _
            have := HLE.out
            rw [tsum_take ops k o HOX.out]
            omega
        case measure => simp [intOf]; omega
    · go_wp2_with fail
      go_ret
      have hkn : k = n := by have := HN.out; omega
      subst hkn
      have hd := HST.out.done (by have := HN.out; omega)
      exact ⟨_, _, _, sts, rfl, own_rs ho, HL.out.symm, Nat.le_refl _, hd, hf1⟩


end Go.Proofs.YtgjaeggpaomoaaaDoor
