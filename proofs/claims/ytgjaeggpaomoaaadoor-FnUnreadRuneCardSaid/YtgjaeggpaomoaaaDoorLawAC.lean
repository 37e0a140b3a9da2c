/- A code point that is unread is read again; nothing else is. -/
import Derived.Test.YtgjaeggpaomoaaaDoorScripts
import Derived.Test.YtgjaeggpaomoaaaDoorDrawT
import Derived.BigQuiet
namespace Go.Proofs.YtgjaeggpaomoaaaDoor
open Go.RowKit
set_option linter.unusedVariables false
attribute [local go_sem ↓] Go.wp_at_zero Go.wp_at_succ

def fourR : List OpV := [opS k_readrune 0, opS k_unreadrune 0, opS k_string 0, opS k_readrune 0]
theorem run_fourR (l : List UInt8) (h0 : l ≠ []) : ∃ st : StV, runM (sta0 l) fourR = [st, ⟨[], 0, 0, []⟩, ⟨l, 0, 0, []⟩, st] ∧ okM (sta0 l) fourR = true := by
  have hnil : ([] : List UInt8) ≠ e_panic := by decide
  have hd := dec_size l h0
  have c1 : callM (sta0 l) (opS k_readrune 0) = ((sta0 l).rd (dec l).2 2, ⟨[], (dec l).2, (dec l).1, []⟩, true) := (callM_readrune _ _ rfl).trans (if_neg h0)
  have e1 : (sta0 l).rd (dec l).2 2 = ⟨l.drop (dec l).2, 2, l.take (dec l).2, true⟩ := by
    have : ¬ (dec l).2 = 0 := by omega
    simp [Sta.rd, sta0, this]
  rw [e1] at c1
  have c2 : callM ⟨l.drop (dec l).2, 2, l.take (dec l).2, true⟩ (opS k_unreadrune 0) = (⟨l, 6, [], true⟩, ⟨[], 0, 0, []⟩, true) := by
    rw [callM_unreadrune _ _ rfl, if_pos rfl]
    simp only [Sta.oth, List.take_append_drop]
    rfl
  have c3 : callM ⟨l, 6, [], true⟩ (opS k_string 0) = (⟨l, 6, [], true⟩, ⟨l, 0, 0, []⟩, true) := callM_string _ _ rfl
  have c4 : callM ⟨l, 6, [], true⟩ (opS k_readrune 0) = ((⟨l, 6, [], true⟩ : Sta).rd (dec l).2 2, ⟨[], (dec l).2, (dec l).1, []⟩, true) := (callM_readrune _ _ rfl).trans (if_neg h0)
  refine ⟨⟨[], (dec l).2, (dec l).1, []⟩, ?_⟩
  unfold fourR
  rw [runM_next _ _ _ _ _ c1 hnil, okM_next _ _ _ _ _ c1 hnil, runM_next _ _ _ _ _ c2 hnil, okM_next _ _ _ _ _ c2 hnil, runM_next _ _ _ _ _ c3 hnil, okM_next _ _ _ _ _ c3 hnil, runM_next _ _ _ _ _ c4 hnil, okM_next _ _ _ _ _ c4 hnil]
  exact ⟨rfl, rfl⟩
theorem run_fourR0 : runM (sta0 []) fourR = [⟨[], 0, 0, e_end⟩, ⟨[], 0, 0, e_error⟩, ⟨[], 0, 0, []⟩, ⟨[], 0, 0, e_end⟩] ∧ okM (sta0 []) fourR = true := ⟨rfl, rfl⟩

def threeR (κ : List UInt8) (z : Nat) : List OpV := [opS k_readrune 0, ⟨κ, [120], z, 0, 120⟩, opS k_unreadrune 0]
theorem rd_recent (s : Sta) (k : Nat) : (s.rd k 1).recent = 1 ∨ (s.rd k 1).recent = 3 := by unfold Sta.rd; split <;> simp
theorem run_threeR (l κ : List UInt8) (z : Nat) (hκ : κ = k_readbyte ∨ κ = k_read ∨ κ = k_next ∨ κ = k_readbytes ∨ κ = k_readstring ∨ κ = k_write ∨ κ = k_writestring ∨ κ = k_writebyte ∨ κ = k_writerune) :
    ∃ st1 st2 : StV, runM (sta0 l) (threeR κ z) = [st1, st2, ⟨[], 0, 0, e_error⟩] ∧ okM (sta0 l) (threeR κ z) = true := by
  have hnil : ([] : List UInt8) ≠ e_panic := by decide
  obtain ⟨s1, st1, c1, hb, hp1⟩ : ∃ s1 st1, callM (sta0 l) (opS k_readrune 0) = (s1, st1, true) ∧ s1.begun = true ∧ st1.err ≠ e_panic := by
    by_cases h0 : l = []
    · exact ⟨_, est e_end, (callM_readrune _ _ rfl).trans (if_pos h0), rfl, by decide⟩
    · refine ⟨_, _, (callM_readrune _ _ rfl).trans (if_neg h0), ?_, hnil⟩
      unfold Sta.rd
      split <;> rfl
  have hwr : ∀ d, (s1.wr d).recent = 4 := fun d => by simp [Sta.wr, hb]
  obtain ⟨s2, st2, c2, hr, hp2⟩ : ∃ s2 st2, callM s1 ⟨κ, [120], z, 0, 120⟩ = (s2, st2, true) ∧ (s2.recent = 1 ∨ s2.recent = 3 ∨ s2.recent = 4 ∨ s2.recent = 5) ∧ st2.err ≠ e_panic := by
    rcases hκ with rfl | rfl | rfl | rfl | rfl | rfl | rfl | rfl | rfl
    · by_cases h0 : s1.text = []
      · exact ⟨_, est e_end, (callM_readbyte _ _ rfl).trans (if_pos h0), .inr (.inl rfl), by decide⟩
      · exact ⟨_, _, (callM_readbyte _ _ rfl).trans (if_neg h0), .inl rfl, hnil⟩
    · exact ⟨_, _, callM_read _ _ rfl, by rcases rd_recent s1 (min z s1.text.length) with h | h; exact .inl h; exact .inr (.inl h), by show (if _ then _ else _) ≠ _; split <;> decide⟩
    · exact ⟨_, _, callM_next _ _ rfl, by rcases rd_recent s1 (min z s1.text.length) with h | h; exact .inl h; exact .inr (.inl h), hnil⟩
    · by_cases h0 : misses s1.text (UInt8.ofNat z) = true
      · exact ⟨_, _, (callM_readbytes _ _ rfl).trans (if_pos h0), .inr (.inr (.inr rfl)), by show e_end ≠ _; decide⟩
      · exact ⟨_, _, (callM_readbytes _ _ rfl).trans (if_neg h0), .inl rfl, hnil⟩
    · by_cases h0 : misses s1.text (UInt8.ofNat z) = true
      · exact ⟨_, _, (callM_readstring _ _ rfl).trans (if_pos h0), .inr (.inr (.inr rfl)), by show e_end ≠ _; decide⟩
      · exact ⟨_, _, (callM_readstring _ _ rfl).trans (if_neg h0), .inl rfl, hnil⟩
    · exact ⟨_, _, callM_write _ _ rfl, .inr (.inr (.inl (hwr _))), hnil⟩
    · exact ⟨_, _, callM_writestring _ _ rfl, .inr (.inr (.inl (hwr _))), hnil⟩
    · exact ⟨_, _, callM_writebyte _ _ rfl, .inr (.inr (.inl (hwr _))), hnil⟩
    · exact ⟨_, _, callM_writerune _ _ rfl, .inr (.inr (.inl (hwr _))), hnil⟩
  have c3 : callM s2 (opS k_unreadrune 0) = (s2, ⟨[], 0, 0, e_error⟩, true) := by
    rw [callM_unreadrune _ _ rfl, if_neg (by omega), if_neg (by omega)]
    rfl
  refine ⟨st1, st2, ?_⟩
  unfold threeR
  rw [runM_next _ _ _ _ _ c1 hp1, okM_next _ _ _ _ _ c1 hp1, runM_next _ _ _ _ _ c2 hp2, okM_next _ _ _ _ _ c2 hp2, runM_next _ _ _ _ _ c3 (by show e_error ≠ _; decide), okM_next _ _ _ _ _ c3 (by show e_error ≠ _; decide)]
  exact ⟨rfl, rfl⟩

/-- The loop over the nine kinds, as a relation. -/
def NineRel (W0 : World) (i : Value) (wr : World) : Prop := ∃ k : Nat, k ≤ 9 ∧ i = .int .i64 (k : Int) ∧ Fr [] W0 wr

set_option maxHeartbeats 8000000 in
set_option maxRecDepth 100000 in
theorem FnUnreadRune_walk (A : Option Addr) (n c0 : Nat) (l : List UInt8) (w : World) (a c : Addr) (hV : Env w.heap.size w a c) (hS : Sl w A n l) :
    Calls Tryd.prog 9 #[.slice A n c0] w fun e w' => e = .returned (.bool true) ∧ Below w.heap.size w w' := by
  go_enter Tryd.func9, Tryd.ntmps9
  go_wp2_with fail
  by_cases hn : n ≤ 1048576
  · refine (large_no A n c0 w hn).mono ?_
    rintro e w1 ⟨rfl, rfl⟩
    go_wp2_with fail
    refine (DrawRunBuffer A n c0 l w hS hn).mono ?_
    rintro e w1 ⟨t, B, m, d, rfl, ht, hm, hf1⟩
    have HV := Lib.hid hV
    clear hV hS
    have ok4 : ∀ o ∈ fourR, o.Ok ∧ o.n ≤ 1048576 ∧ o.kind ∈ kinds := by
      intro o ho
      simp only [fourR, List.mem_cons, List.not_mem_nil, or_false] at ho
      rcases ho with rfl | rfl | rfl | rfl
      all_goals exact ⟨opS_ok _ _ (by omega), by show (0 : Int) ≤ _; omega, by decide⟩
    obtain ⟨st, x, hrun, hok, hcmp⟩ : ∃ (st : StV) (x : List UInt8), runM (sta0 t) fourR = [st, ⟨[], 0, 0, x⟩, ⟨t, 0, 0, []⟩, st] ∧ okM (sta0 t) fourR = true ∧ (((x == []) = true ∧ (t == []) = false) ∨ ((x == []) = false ∧ (t == []) = true)) := by
      by_cases h0 : t = []
      · subst h0
        exact ⟨_, e_error, run_fourR0.1, run_fourR0.2, .inr ⟨by decide, rfl⟩⟩
      · obtain ⟨st, h1, h2⟩ := run_fourR t h0
        exact ⟨st, [], h1, h2, .inl ⟨rfl, by simpa using h0⟩⟩
    have hc1 := Lib.hid (run_script t fourR _ w.heap.size w1 a c hf1.size (HV.out.fr hf1 (by simp)) (by simp [tsum, opS, fourR]; omega) ok4 hok hrun)
    simp only [fourR, List.flatMap_cons, List.flatMap_nil, OpV.cells, StV.cells, opS, List.cons_append, List.nil_append, List.length_cons, List.length_nil, Nat.zero_add, Nat.reduceAdd] at hc1
    have HCMP := Lib.hid hcmp
    clear ok4 hrun hok hcmp
    go_wp2_with fail
    refine hc1.out.mono ?_
    rintro e w2 ⟨B1, d1, rfl, hR1, hf2⟩
    obtain ⟨g1, rfl, ca⟩ := hR1.get (by omega)
    have a0 := ca 0 _ rfl
    have a1 := ca 1 _ rfl
    have a2 := ca 2 _ rfl
    have a3 := ca 3 _ rfl
    have a7 := ca 7 _ rfl
    have a8 := ca 8 _ rfl
    have a12 := ca 12 _ rfl
    have a13 := ca 13 _ rfl
    have a14 := ca 14 _ rfl
    have a15 := ca 15 _ rfl
    have hf12 := hf1.trans hf2
    clear hR1 hc1 ca
    have hK := fun q => slv_new (w2.drewN q) #[.string ⟨#[114, 101, 97, 100, 98, 121, 116, 101]⟩, .string ⟨#[114, 101, 97, 100]⟩, .string ⟨#[110, 101, 120, 116]⟩, .string ⟨#[114, 101, 97, 100, 98, 121, 116, 101, 115]⟩, .string ⟨#[114, 101, 97, 100, 115, 116, 114, 105, 110, 103]⟩, .string ⟨#[119, 114, 105, 116, 101]⟩, .string ⟨#[119, 114, 105, 116, 101, 115, 116, 114, 105, 110, 103]⟩, .string ⟨#[119, 114, 105, 116, 101, 98, 121, 116, 101]⟩, .string ⟨#[119, 114, 105, 116, 101, 114, 117, 110, 101]⟩] 9
    have hfa := fun q => ((Fr.refl [] w2).drewN q).alloc (.cells #[.string ⟨#[114, 101, 97, 100, 98, 121, 116, 101]⟩, .string ⟨#[114, 101, 97, 100]⟩, .string ⟨#[110, 101, 120, 116]⟩, .string ⟨#[114, 101, 97, 100, 98, 121, 116, 101, 115]⟩, .string ⟨#[114, 101, 97, 100, 115, 116, 114, 105, 110, 103]⟩, .string ⟨#[119, 114, 105, 116, 101]⟩, .string ⟨#[119, 114, 105, 116, 101, 115, 116, 114, 105, 110, 103]⟩, .string ⟨#[119, 114, 105, 116, 101, 98, 121, 116, 101]⟩, .string ⟨#[119, 114, 105, 116, 101, 114, 117, 110, 101]⟩] 9)
    rcases HCMP.out with ⟨hx1, hx2⟩ | ⟨hx1, hx2⟩
    all_goals
      go_wp2_with fail
      go_quiet (fail)
      go_wp2_with fail
      clear a0 a1 a2 a3 a7 a8 a12 a13 a14 a15 hx1
      go_loopw [56] (fun i wr => ∃ k : Nat, k ≤ 9 ∧ i = .int .i64 (k : Int) ∧ Slv wr (some ⟨w2.heap.size, 0, none⟩) 9 (#[.string ⟨#[114, 101, 97, 100, 98, 121, 116, 101]⟩, .string ⟨#[114, 101, 97, 100]⟩, .string ⟨#[110, 101, 120, 116]⟩, .string ⟨#[114, 101, 97, 100, 98, 121, 116, 101, 115]⟩, .string ⟨#[114, 101, 97, 100, 115, 116, 114, 105, 110, 103]⟩, .string ⟨#[119, 114, 105, 116, 101]⟩, .string ⟨#[119, 114, 105, 116, 101, 115, 116, 114, 105, 110, 103]⟩, .string ⟨#[119, 114, 105, 116, 101, 98, 121, 116, 101]⟩, .string ⟨#[119, 114, 105, 116, 101, 114, 117, 110, 101]⟩] : Array Value).toList ∧ Fr [] w2 wr) (fun i _ => 9 - (intOf i).toNat)
      case atStart => exact ⟨0, Nat.zero_le _, rfl, hK _, hfa _⟩
      case round =>
        obtain ⟨k, hk, rfl, hKr, hfr1⟩ := hrel
        have hfr := hf12.trans hfr1
        by_cases hlt : k < 9
        · obtain ⟨ad, u, hadd, hu, hc⟩ := hKr.at_ hlt
          injection hadd with hadd
          subst hadd
          rw [add_at, Nat.zero_add] at hc
          obtain ⟨κ, rfl, hκ⟩ : ∃ κ : List UInt8, u = .string ⟨κ.toArray⟩ ∧ (κ = k_readbyte ∨ κ = k_read ∨ κ = k_next ∨ κ = k_readbytes ∨ κ = k_readstring ∨ κ = k_write ∨ κ = k_writestring ∨ κ = k_writebyte ∨ κ = k_writerune) := by
            have hu' := hu.symm
            rcases (show k = 0 ∨ k = 1 ∨ k = 2 ∨ k = 3 ∨ k = 4 ∨ k = 5 ∨ k = 6 ∨ k = 7 ∨ k = 8 by omega) with rfl | rfl | rfl | rfl | rfl | rfl | rfl | rfl | rfl
            · exact ⟨k_readbyte, by injection hu', .inl rfl⟩
            · exact ⟨k_read, by injection hu', .inr (.inl rfl)⟩
            · exact ⟨k_next, by injection hu', .inr (.inr (.inl rfl))⟩
            · exact ⟨k_readbytes, by injection hu', .inr (.inr (.inr (.inl rfl)))⟩
            · exact ⟨k_readstring, by injection hu', .inr (.inr (.inr (.inr (.inl rfl))))⟩
            · exact ⟨k_write, by injection hu', .inr (.inr (.inr (.inr (.inr (.inl rfl)))))⟩
            · exact ⟨k_writestring, by injection hu', .inr (.inr (.inr (.inr (.inr (.inr (.inl rfl))))))⟩
            · exact ⟨k_writebyte, by injection hu', .inr (.inr (.inr (.inr (.inr (.inr (.inr (.inl rfl)))))))⟩
            · exact ⟨k_writerune, by injection hu', .inr (.inr (.inr (.inr (.inr (.inr (.inr (.inr (rfl))))))))⟩
          have hkk : κ ∈ kinds := by rcases hκ with rfl | rfl | rfl | rfl | rfl | rfl | rfl | rfl | rfl <;> decide
          obtain ⟨st1, st2, h1, h2⟩ := run_threeR t κ (m % 4) hκ
          have hzz : ((m % 4 : Nat) : Int) = (m : Int) % 4 := by omega
          have okk : ∀ o ∈ threeR κ (m % 4), o.Ok ∧ o.n ≤ 1048576 ∧ o.kind ∈ kinds := by
            intro o ho
            simp only [threeR, List.mem_cons, List.not_mem_nil, or_false] at ho
            rcases ho with rfl | rfl | rfl
            · exact ⟨opS_ok _ _ (by omega), by show (0 : Int) ≤ _; omega, by decide⟩
            · exact ⟨⟨by show m % 4 ≤ _; omega, by show (_ : Int) ≤ 0; omega, by show (0 : Int) ≤ _; omega, by show (_ : Int) ≤ 120; omega, by show (120 : Int) ≤ _; omega⟩, by show (0 : Int) ≤ _; omega, hkk⟩
            · exact ⟨opS_ok _ _ (by omega), by show (0 : Int) ≤ _; omega, by decide⟩
          have hc2 := Lib.hid (run_script _ _ _ w.heap.size wr a c hfr.size (HV.out.fr hfr (by simp)) (by simp [tsum, opS, threeR]; try omega) okk h2 h1)
          simp only [threeR, List.flatMap_cons, List.flatMap_nil, OpV.cells, StV.cells, opS, List.cons_append, List.nil_append, List.length_cons, List.length_nil, Nat.zero_add, Nat.reduceAdd] at hc2
          simp only [hzz] at hc2
          have HKR := Lib.hid hKr
          clear hu hκ hkk h1 h2 okk hzz hKr
          go_wp2_with fail
          refine hc2.out.mono ?_
          rintro e w3 ⟨B2, d2, rfl, hR2, hf3⟩
          obtain ⟨g2, rfl, cb⟩ := hR2.get (by omega)
          have b11 := cb 11 _ rfl
          clear hR2 hc2 cb
          go_wp2_with fail
          go_roundw
          case rel => exact ⟨k + 1, by omega, by go_num, HKR.out.fr_old hf3 (by simp), hfr1.trans hf3⟩
          case measure => simp [intOf]; omega
        · go_wp2_with fail
          go_ret
          exact ⟨rfl, hfr.below (Nat.le_refl _) (by simp)⟩
  · refine (large_yes A n c0 w (by omega)).mono ?_
    rintro e w1 ⟨rfl, rfl⟩
    go_wp2_with fail
    go_ret
    exact ⟨rfl, Below.refl _ _⟩

end Go.Proofs.YtgjaeggpaomoaaaDoor
