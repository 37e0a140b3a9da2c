/- The reference's run of a script. -/
import Derived.Test.YtgjaeggpaomoaaaDoorSpecCall
import Derived.Test.YtgjaeggpaomoaaaDoorSOps
namespace Go.Proofs.YtgjaeggpaomoaaaDoor
open Go.RowKit
set_option linter.unusedVariables false
attribute [local go_sem ↓] Go.wp_at_zero Go.wp_at_succ

/-- What the reference tells of a script's calls. -/
def runS (s : Sta) : List OpV → List StV
  | [] => []
  | o :: r => if (callS s o).2.2 then (callS s o).2.1 :: (if (callS s o).2.1.err = e_panic then [] else runS (callS s o).1 r) else []
theorem runS_pre : ∀ (ops : List OpV) (s : Sta), runS s ops <+: runM s ops
  | [], s => List.prefix_refl _
  | o :: r, s => by
    by_cases hw : o.kind = k_writerune ∧ validB o.char = false
    · have e : callS s o = (s, zst, false) := if_pos hw
      simp [runS, e]
    · have e : callS s o = callM s o := if_neg hw
      have ih := runS_pre r (callM s o).1
      unfold runS runM
      rw [e]
      by_cases h1 : (callM s o).2.2 = true
      · rw [if_pos h1, if_pos h1]
        by_cases h2 : (callM s o).2.1.err = e_panic
        · rw [if_pos h2, if_pos h2]
          exact List.prefix_refl _
        · rw [if_neg h2, if_neg h2]
          exact (List.prefix_cons_inj _).2 ih
      · rw [if_neg h1, if_neg h1]
        exact List.prefix_refl _
theorem drop_cons_ {os : List OpV} {k : Nat} {o : OpV} (h : os[k]? = some o) : os.drop k = o :: os.drop (k + 1) := by
  obtain ⟨hlt, rfl⟩ := List.getElem?_eq_some_iff.1 h
  exact List.drop_eq_getElem_cons hlt

theorem wr_ok (s : Sta) (d : List UInt8) : StaOk (s.wr d) := by
  unfold Sta.wr
  split
  · exact ⟨by simp, by simp, by simp⟩
  · exact ⟨by simp, by simp, by simp⟩
theorem oth_ok (s : Sta) (t : List UInt8) : StaOk (s.oth t) := ⟨by simp [Sta.oth], by simp [Sta.oth], by simp [Sta.oth]⟩
theorem rd1_ok (s : Sta) (n : Nat) : StaOk (s.rd n 1) := by
  unfold Sta.rd
  split
  · exact ⟨by simp, by simp, by simp⟩
  · refine ⟨by simp, ?_, by simp⟩
    simp
    omega
theorem rd2_ok (s : Sta) (n : Nat) (h4 : n ≤ 4) (hl : n ≤ s.text.length) : StaOk (s.rd n 2) := by
  unfold Sta.rd
  split
  · exact ⟨by simp, by simp, by simp⟩
  · refine ⟨by simp, ?_, ?_⟩
    · simp
      omega
    · simp
      omega
theorem rd_len (s : Sta) (n k : Nat) : (s.rd n k).text.length ≤ s.text.length := by rw [rd_text, List.length_drop]; omega
theorem callM_ok (s : Sta) (o : OpV) (hs : StaOk s) : StaOk (callM s o).1 ∧ (callM s o).1.text.length ≤ s.text.length + o.text.length + 4 := by
  have hw : ∀ d : List UInt8, d.length ≤ o.text.length + 4 → StaOk (s.wr d) ∧ (s.wr d).text.length ≤ s.text.length + o.text.length + 4 := fun d hd => ⟨wr_ok s d, by rw [wr_text', List.length_append]; omega⟩
  have hsame : StaOk s ∧ s.text.length ≤ s.text.length + o.text.length + 4 := ⟨hs, by omega⟩
  have ho : ∀ t : List UInt8, t.length ≤ s.text.length + 4 → StaOk (s.oth t) ∧ (s.oth t).text.length ≤ s.text.length + o.text.length + 4 := fun t ht => ⟨oth_ok s t, by show t.length ≤ _; omega⟩
  have hr1 : ∀ n, StaOk (s.rd n 1) ∧ (s.rd n 1).text.length ≤ s.text.length + o.text.length + 4 := fun n => ⟨rd1_ok s n, by have := rd_len s n 1; omega⟩
  have hlast := hs.last
  have hrl := Lib.runeCells_le o.char
  rw [Lib.runeCells_length] at hrl
  by_cases hk : o.kind ∈ kinds
  · unfold kinds at hk
    simp only [List.mem_cons, List.not_mem_nil, or_false] at hk
    rcases hk with e | e | e | e | e | e | e | e | e | e | e | e | e | e | e | e | e | e | e
    · rw [callM_write _ _ e]; exact hw _ (by omega)
    · rw [callM_writestring _ _ e]; exact hw _ (by omega)
    · rw [callM_writebyte _ _ e]; exact hw _ (by simp)
    · rw [callM_writerune _ _ e]; exact hw _ (by omega)
    · rw [callM_len _ _ e]; exact hsame
    · rw [callM_bytes _ _ e]; exact hsame
    · rw [callM_string _ _ e]; exact hsame
    · rw [callM_truncate _ _ e]
      split
      · exact hsame
      · exact ho _ (by rw [List.length_take]; omega)
    · rw [callM_reset _ _ e]; exact ho _ (by simp)
    · rw [callM_grow _ _ e]
      split
      · exact hsame
      · exact ho _ (by omega)
    · rw [callM_read _ _ e]; exact hr1 _
    · rw [callM_next _ _ e]; exact hr1 _
    · rw [callM_peek _ _ e]; exact ho _ (by omega)
    · rw [callM_readbyte _ _ e]
      split
      · exact hr1 0
      · exact hr1 1
    · rw [callM_readbytes _ _ e]
      split
      · exact ⟨⟨by simp, by simp, by simp⟩, by simp⟩
      · exact hr1 (s.text.idxOf (UInt8.ofNat o.size) + 1)
    · rw [callM_readstring _ _ e]
      split
      · exact ⟨⟨by simp, by simp, by simp⟩, by simp⟩
      · exact hr1 (s.text.idxOf (UInt8.ofNat o.size) + 1)
    · rw [callM_readrune _ _ e]
      split
      · exact ⟨rd2_ok s 0 (by omega) (by omega), by have := rd_len s 0 2; show (s.rd 0 2).text.length ≤ _; omega⟩
      · rename_i h0
        have hd := dec_size s.text h0
        exact ⟨rd2_ok s _ hd.2.1 hd.2.2, by have := rd_len s (dec s.text).2 2; show (s.rd _ 2).text.length ≤ _; omega⟩
    · rw [callM_unreadbyte _ _ e]
      split
      · exact ho _ (by rw [List.length_append]; omega)
      · split
        · exact ho _ (by rw [List.length_append, List.length_drop]; omega)
        · split <;> exact hsame
    · rw [callM_unreadrune _ _ e]
      split
      · exact ho _ (by rw [List.length_append]; omega)
      · split <;> exact hsame
  · unfold kinds at hk
    simp only [List.mem_cons, List.not_mem_nil, or_false, not_or] at hk
    obtain ⟨q0, q1, q2, q3, q4, q5, q6, q7, q8, q9, q10, q11, q12, q13, q14, q15, q16, q17, q18⟩ := hk
    rw [callM_none s o q0 q1 q2 q3 q4 q5 q6 q7 q8 q9 q10 q11 q12 q13 q14 q15 q16 q17 q18]
    exact hsame
theorem callS_ok (s : Sta) (o : OpV) (hs : StaOk s) : StaOk (callS s o).1 ∧ (callS s o).1.text.length ≤ s.text.length + o.text.length + 4 := by
  unfold callS
  split
  · exact ⟨hs, by show s.text.length ≤ _; omega⟩
  · exact callM_ok s o hs

theorem infoSs : (Tryd.prog.info? 77).map (fun i => (i.zero, i.size, i.bytes)) = some (some (.agg #[.string ByteArray.empty, .int .i64 0, .int .i32 0, .string ByteArray.empty]), 4, 48) := by kernel_rfl
/-- The loop of spec.Run. -/
def SRunRel (w : World) (l : List UInt8) (os : List OpV) (v i : Value) (wr : World) : Prop :=
  ∃ k s sts, k ≤ os.length ∧ i = .int .i64 (k : Int) ∧ wr.ownsRow w.heap.size 77 4 v k (sts.flatMap StV.cells) ∧ Hid (sts.length = k) ∧ Blk wr w.heap.size 85 #[.string ⟨s.text.toArray⟩, .int .i64 (s.recent : Int), .string ⟨s.last.toArray⟩, .bool s.begun] ∧ Hid (StaOk s ∧ s.text.length ≤ l.length + tsum (os.take k)) ∧ Hid (runS (sta0 l) os = sts ++ runS s (os.drop k)) ∧ Fr [] w wr

set_option maxHeartbeats 4000000 in
set_option maxRecDepth 100000 in
theorem spec_Run (l : List UInt8) (A : Option Addr) (n c : Nat) (os : List OpV) (w : World) (hS : Rg w A n 5 (os.flatMap OpV.cells)) (hn : n = os.length) (hN : l.length + tsum os + n ≤ 2097152) (hok : ∀ o ∈ os, o.Ok) :
    Calls Tryd.prog 25 #[.string ⟨l.toArray⟩, .slice A n c] w fun e w' => ∃ (B : Option Addr) (m d : Nat) (sts : List StV), e = .returned (.slice B m d) ∧ Rs w' B m 4 (sts.flatMap StV.cells) ∧ m = sts.length ∧ m ≤ n ∧ Hid (sts = runS (sta0 l) os) ∧ Fr [] w w' := by
  have HN := Lib.hid hn
  have HOK := Lib.hid hok
  clear hn hok
  go_enter Tryd.func25, Tryd.ntmps25
  go_wp2_with fail
  go_loopw [6, 17] (fun v i wr => SRunRel w l os v i wr) (fun _ i _ => n - (intOf i).toNat)
  case atStart =>
    refine ⟨0, sta0 l, [], Nat.zero_le _, rfl, by have := own_empty_from (w.alloc (.cells #[.string ⟨l.toArray⟩, .int .i64 0, .string ⟨#[]⟩, .bool false] 85)) w.heap.size 77 4 (by simp); simpa using this, rfl, ?_, ⟨⟨by simp [sta0], by simp [sta0], by simp [sta0]⟩, by simp [sta0]⟩, by show _ = _; simp, ((Fr.refl [] w).alloc _).alloc _⟩
    exact (Blk.new w 85 #[.string ⟨l.toArray⟩, .int .i64 0, .string ⟨#[]⟩, .bool false]).alloc _
  case round =>
    obtain ⟨k, s, sts, hk, rfl, ho, HL, hB, HSO, HST, hf⟩ := hrel
    obtain ⟨A', c', rfl⟩ := own_form ho
    by_cases hlt : k < n
    · obtain ⟨o, hox⟩ : ∃ o, os[k]? = some o := ⟨_, List.getElem?_eq_getElem (by have := HN.out; omega)⟩
      obtain ⟨ad, rfl, cg0, cg⟩ := (hS.fr_old hf (by simp)).get (by omega)
      have g5 := fun j h => recs_get OpV.cells 5 (fun _ => rfl) os k j o hox h
      have x0 := cg0 _ _ ((g5 0 (by omega)).trans rfl)
      have x1 := cg _ 0 _ ((g5 1 (by omega)).trans rfl)
      have x2 := cg _ 1 _ ((g5 2 (by omega)).trans rfl)
      have x3 := cg _ 2 _ ((g5 3 (by omega)).trans rfl)
      have x4 := cg _ 3 _ ((g5 4 (by omega)).trans rfl)
      simp only [Nat.add_zero, Nat.zero_add, Nat.reduceAdd] at x0 x1 x2 x3 x4
      have s0 : wr.cell? ⟨w.heap.size, 0, none⟩ = some (.string ⟨s.text.toArray⟩) := hB.cell 0
      have s1 : wr.cell? ⟨w.heap.size, 1, none⟩ = some (.int .i64 (s.recent : Int)) := hB.cell 1
      have s2 : wr.cell? ⟨w.heap.size, 2, none⟩ = some (.string ⟨s.last.toArray⟩) := hB.cell 2
      have s3 : wr.cell? ⟨w.heap.size, 3, none⟩ = some (.bool s.begun) := hB.cell 3
      have hsl := hB.lt
      have ht := tsum_le os k o hox
      have hcall := Lib.hid fun ob => spec_Call s o (wr.alloc ob) HSO.out.1 (HOK.out o (List.mem_of_getElem? hox)) (by have := HSO.out.2; omega)
      unfold Sta.val OpV.val at hcall
      have HOX := Lib.hid hox
      have HB := Lib.hid hB
      have HT := Lib.hid ht
      have HO := Lib.hid ho
      have hne := own_ne_blk ho hB (by decide)
      have hsz := hf.size
      clear cg0 cg g5 hox hB ht ho
      go_wp2_with fail
      refine (hcall.out _).mono ?_
      rintro e w2 ⟨s', st, ok, rfl, HM, hf2⟩
      have hf02 : Fr [] wr w2 := ((Fr.refl [] wr).alloc _).trans hf2
      have hfw := hf.trans hf02
      cases ok
      · have ho2 := hf02.own HO.out (by simp)
        have hd : sts = runS (sta0 l) os := by
          rw [HST.out, drop_cons_ HOX.out]
          simp [runS, HM.out]
        have HD := Lib.hid hd
        have HO2 := Lib.hid ho2
        clear ho2 hd
        go_wp2_with fail
        go_ret
        exact ⟨_, _, _, sts, rfl, own_rs (((Fr.refl [] w2).alloc _).alloc _ |>.own HO2.out (by simp)), HL.out.symm, by omega, HD, (hfw.alloc _).alloc _⟩
      · have ho2 := hf02.own HO.out (by simp)
        have hsz2 := hfw.size
        obtain ⟨v', w', hrun, ho', hg', hb'⟩ := run_app (P := Tryd.prog) (((w2.alloc (.cells #[.string ⟨s'.text.toArray⟩, .int .i64 (s'.recent : Int), .string ⟨s'.last.toArray⟩, .bool s'.begun] 85)).alloc (.cells #[.string ⟨st.text.toArray⟩, .int .i64 st.n, .int .i32 st.char, .string ⟨st.err.toArray⟩] 77)).alloc (.cells #[.string ⟨st.text.toArray⟩, .int .i64 st.n, .int .i32 st.char, .string ⟨st.err.toArray⟩] 77)) w.heap.size 46 46 46 77 _ 4 48 Tryd.underlying46 infoSs rfl (by decide) _ _ _ (((ho2.alloc _).alloc _).alloc _) _ 1 _
          (src_blk ((w2.alloc (.cells #[.string ⟨s'.text.toArray⟩, .int .i64 (s'.recent : Int), .string ⟨s'.last.toArray⟩, .bool s'.begun] 85)).alloc (.cells #[.string ⟨st.text.toArray⟩, .int .i64 st.n, .int .i32 st.char, .string ⟨st.err.toArray⟩] 77)) #[.string ⟨st.text.toArray⟩, .int .i64 st.n, .int .i32 st.char, .string ⟨st.err.toArray⟩] 77 77 46 Tryd.underlying46 4 rfl (by simp [Value.oneCell']) 1) (by omega) (by omega) (by simp; omega)
        rw [show ((w2.alloc (.cells #[.string ⟨s'.text.toArray⟩, .int .i64 (s'.recent : Int), .string ⟨s'.last.toArray⟩, .bool s'.begun] 85)).alloc (.cells #[.string ⟨st.text.toArray⟩, .int .i64 st.n, .int .i32 st.char, .string ⟨st.err.toArray⟩] 77)).heap.size = w2.heap.size + 1 + 1 by simp] at hrun
        have hfg := Fr.of_grown hg'
        have hk1 := (((Blk.new w2 85 #[.string ⟨s'.text.toArray⟩, .int .i64 (s'.recent : Int), .string ⟨s'.last.toArray⟩, .bool s'.begun]).alloc (.cells #[.string ⟨st.text.toArray⟩, .int .i64 st.n, .int .i32 st.char, .string ⟨st.err.toArray⟩] 77)).alloc (.cells #[.string ⟨st.text.toArray⟩, .int .i64 st.n, .int .i32 st.char, .string ⟨st.err.toArray⟩] 77)).fr hfg (by simp only [Option.mem_toList]; intro hm; have := (ho2.lt _ hm).2; omega)
        have hk2 := ((Blk.new (w2.alloc (.cells #[.string ⟨s'.text.toArray⟩, .int .i64 (s'.recent : Int), .string ⟨s'.last.toArray⟩, .bool s'.begun] 85)) 77 #[.string ⟨st.text.toArray⟩, .int .i64 st.n, .int .i32 st.char, .string ⟨st.err.toArray⟩]).alloc (.cells #[.string ⟨st.text.toArray⟩, .int .i64 st.n, .int .i32 st.char, .string ⟨st.err.toArray⟩] 77)).fr hfg (by simp only [Option.mem_toList]; intro hm; have := (ho2.lt _ hm).2; simp at this; omega)
        have hkb := ((((HB.out.fr hf02 (by simp)).alloc (.cells #[.string ⟨s'.text.toArray⟩, .int .i64 (s'.recent : Int), .string ⟨s'.last.toArray⟩, .bool s'.begun] 85)).alloc (.cells #[.string ⟨st.text.toArray⟩, .int .i64 st.n, .int .i32 st.char, .string ⟨st.err.toArray⟩] 77)).alloc (.cells #[.string ⟨st.text.toArray⟩, .int .i64 st.n, .int .i32 st.char, .string ⟨st.err.toArray⟩] 77)).fr hfg (by simp only [Option.mem_toList]; intro hm; exact hne _ hm rfl)
        have d0 := hk1.cell 0
        have d1 := hk1.cell 1
        have d2 := hk1.cell 2
        have d3 := hk1.cell 3
        have d4 := hk2.cell 3
        simp only [World.size_alloc, List.getElem?_toArray, List.getElem?_cons_zero, List.getElem?_cons_succ] at d0 d1 d2 d3 d4
        have e0 := hkb.cell 0
        have e1 := hkb.cell 1
        have e2 := hkb.cell 2
        have e3 := hkb.cell 3
        simp only [List.getElem?_toArray, List.getElem?_cons_zero, List.getElem?_cons_succ] at e0 e1 e2 e3
        have m0 := hkb.frozen 0
        have m1 := hkb.frozen 1
        have m2 := hkb.frozen 2
        have m3 := hkb.frozen 3
        have hfr' : Fr [] w w' := (((hfw.alloc _).alloc _).alloc _).grown hg' (fun y hy => .inr ((ho2.lt y hy).1))
        obtain ⟨A2, c2, rfl⟩ := own_form ho'
        have ho3 : w'.ownsRow w.heap.size 77 4 (.slice A2 (k + 1) c2) (k + 1) ((sts ++ [st]).flatMap StV.cells) := by rw [recs_snoc]; exact ho'
        have hne3 := own_ne_blk ho3 hkb (by decide)
        have HO3 := Lib.hid ho3
        have HKB := Lib.hid hkb
        clear hk1 hk2 hkb ho' ho3 ho2 hb' hfg
        by_cases hp : st.err = e_panic
        · have hpb : (st.err == [112, 97, 110, 105, 99]) = true := by rw [hp]; rfl
          have HP := Lib.hid hp
          clear hp
          go_wp2_with (at_builtin; refine wpList_append_run rfl _ _ _ _ rfl rfl rfl hrun ?_)
          go_ret
          have hd : sts ++ [st] = runS (sta0 l) os := by
            rw [HST.out, drop_cons_ HOX.out]
            simp [runS, HM.out, HP.out]
          exact ⟨_, _, _, sts ++ [st], rfl, own_rs HO3.out, by simp [HL.out], by omega, hd, hfr'⟩
        · have hpb : (st.err == [112, 97, 110, 105, 99]) = false := by simpa using hp
          have HP := Lib.hid hp
          clear hp
          go_wp2_with (at_builtin; refine wpList_append_run rfl _ _ _ _ rfl rfl rfl hrun ?_)
          go_roundw
          case rel =>
            have hfin : ∀ w3, Fr [w.heap.size] w' w3 → Blk w3 w.heap.size 85 #[.string ⟨s'.text.toArray⟩, .int .i64 (s'.recent : Int), .string ⟨s'.last.toArray⟩, .bool s'.begun] → SRunRel w l os (.slice A2 (k + 1) c2) (.int .i64 ((k + 1 : Nat) : Int)) w3 := by
              intro w3 hf3 hB3
              have hcs := callS_ok s o HSO.out.1
              rw [HM.out] at hcs
              refine ⟨k + 1, s', sts ++ [st], by have := HN.out; omega, rfl, hf3.own HO3.out (fun y hy => by simpa using hne3 y hy), by show _ = _; simp [HL.out], hB3, ⟨hcs.1, ?_⟩, ?_, hfr'.trans_of hf3 (by simp)⟩
              · rw [tsum_take os k o HOX.out]
                have h1 := hcs.2
                have h2 := HSO.out.2
                simp only at h1
                omega
              · show _ = _
                rw [HST.out, drop_cons_ HOX.out]
                simp [runS, HM.out, HP.out]
            have hfx := hfin _ ((((Fr.refl [w.heap.size] w').setCell (p := ⟨w.heap.size, 0, none⟩) (.inl (by simp)) (.string ⟨s'.text.toArray⟩)).setCell (p := ⟨w.heap.size, 1, none⟩) (.inl (by simp)) (.int .i64 (s'.recent : Int))).setCell (p := ⟨w.heap.size, 2, none⟩) (.inl (by simp)) (.string ⟨s'.last.toArray⟩) |>.setCell (p := ⟨w.heap.size, 3, none⟩) (.inl (by simp)) (.bool s'.begun)) ((((HKB.out.set_ 0 _).set_ 1 _).set_ 2 _).set_ 3 _)
            rw [Int.natCast_add, Int.natCast_one] at hfx
            exact hfx
          case measure => simp [intOf]; omega
    · go_wp2_with fail
      go_ret
      have hkn : k = n := by have := HN.out; omega
      subst hkn
      have hd : sts = runS (sta0 l) os := by
        have h1 := HST.out
        rw [List.drop_eq_nil_of_le (by have := HN.out; omega)] at h1
        simpa [runS] using h1.symm
      exact ⟨_, _, _, sts, rfl, own_rs ho, HL.out.symm, Nat.le_refl _, hd, hf⟩

end Go.Proofs.YtgjaeggpaomoaaaDoor
