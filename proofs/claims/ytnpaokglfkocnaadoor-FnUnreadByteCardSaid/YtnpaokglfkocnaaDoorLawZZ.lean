/- A byte that is unread is read again. -/
import Derived.Test.YtnpaokglfkocnaaDoorScripts
import Derived.Test.YtnpaokglfkocnaaDoorDrawT
import Derived.BigQuiet
namespace Go.Proofs.YtnpaokglfkocnaaDoor
open Go.RowKit
set_option linter.unusedVariables false
attribute [local go_sem ↓] Go.wp_at_zero Go.wp_at_succ

def six (o : OpV) : List OpV := [o, opS k_string 0, opS k_unreadbyte 0, opS k_string 0, opS k_readbyte 0, opS k_string 0]
theorem run_six (l : List UInt8) (o : OpV) (m kk : Nat) (st : StV) (hm0 : 1 ≤ m) (hm : m ≤ l.length) (hkk : kk = 1 ∨ kk = 2) (h : callM (sta0 l) o = ((sta0 l).rd m kk, st, true)) (hp : st.err ≠ e_panic) :
    runM (sta0 l) (six o) = [st, ⟨l.drop m, 0, 0, []⟩, ⟨[], 0, 0, []⟩, ⟨l.drop (m - 1), 0, 0, []⟩, ⟨[], byteAt (l.drop (m - 1)) 0, 0, []⟩, ⟨l.drop m, 0, 0, []⟩] ∧ okM (sta0 l) (six o) = true := by
  have hnil : ([] : List UInt8) ≠ e_panic := by decide
  have h0 : ¬ m = 0 := by omega
  unfold six
  rw [runM_next _ _ _ _ _ h hp, okM_next _ _ _ _ _ h hp]
  obtain ⟨la, e1, e2⟩ : ∃ la, (sta0 l).rd m kk = ⟨l.drop m, kk, la, true⟩ ∧ (if kk = 1 then la else la.drop (la.length - 1)) ++ l.drop m = l.drop (m - 1) := by
    have hx : (l.take m).drop (m - 1) ++ l.drop m = l.drop (m - 1) := by
      rw [List.drop_take, show m - (m - 1) = 1 by omega]
      have := List.take_append_drop 1 (l.drop (m - 1))
      rw [List.drop_drop, show m - 1 + 1 = m by omega] at this
      exact this
    rcases hkk with rfl | rfl
    · exact ⟨_, by simp only [Sta.rd, sta0, h0, if_false]; rfl, by simpa using hx⟩
    · refine ⟨_, by simp only [Sta.rd, sta0, h0, if_false, if_true]; rfl, ?_⟩
      rw [if_neg (by decide), List.length_take, Nat.min_eq_left hm]
      exact hx
  rw [e1]
  have c2 : callM ⟨l.drop m, kk, la, true⟩ (opS k_string 0) = (⟨l.drop m, kk, la, true⟩, ⟨l.drop m, 0, 0, []⟩, true) := callM_string _ _ rfl
  have c3 : callM ⟨l.drop m, kk, la, true⟩ (opS k_unreadbyte 0) = (⟨l.drop (m - 1), 6, [], true⟩, ⟨[], 0, 0, []⟩, true) := by
    rw [callM_unreadbyte _ _ rfl]
    rcases hkk with rfl | rfl
    · rw [if_pos rfl]
      simp only [if_true] at e2
      simp only [Sta.oth, e2]
      rfl
    · rw [if_neg (by show ¬ (2 : Nat) = 1; decide), if_pos rfl]
      rw [if_neg (by decide)] at e2
      simp only [Sta.oth, e2]
      rfl
  have c4 : callM ⟨l.drop (m - 1), 6, [], true⟩ (opS k_string 0) = (⟨l.drop (m - 1), 6, [], true⟩, ⟨l.drop (m - 1), 0, 0, []⟩, true) := callM_string _ _ rfl
  have hne : l.drop (m - 1) ≠ [] := fun e => by have := congrArg List.length e; rw [List.length_drop, List.length_nil] at this; omega
  have c5 : callM ⟨l.drop (m - 1), 6, [], true⟩ (opS k_readbyte 0) = ((⟨l.drop (m - 1), 6, [], true⟩ : Sta).rd 1 1, ⟨[], byteAt (l.drop (m - 1)) 0, 0, []⟩, true) := by rw [callM_readbyte _ _ rfl, if_neg hne]
  have c6 : callM ((⟨l.drop (m - 1), 6, [], true⟩ : Sta).rd 1 1) (opS k_string 0) = ((⟨l.drop (m - 1), 6, [], true⟩ : Sta).rd 1 1, ⟨l.drop m, 0, 0, []⟩, true) := by
    rw [callM_string _ _ rfl, rd_text]
    show (_, (⟨(l.drop (m - 1)).drop 1, 0, 0, []⟩ : StV), true) = _
    rw [List.drop_drop, show m - 1 + 1 = m by omega]
  rw [runM_next _ _ _ _ _ c2 hnil, okM_next _ _ _ _ _ c2 hnil, runM_next _ _ _ _ _ c3 hnil, okM_next _ _ _ _ _ c3 hnil, runM_next _ _ _ _ _ c4 hnil, okM_next _ _ _ _ _ c4 hnil, runM_next _ _ _ _ _ c5 hnil, okM_next _ _ _ _ _ c5 hnil, runM_next _ _ _ _ _ c6 hnil, okM_next _ _ _ _ _ c6 hnil]
  exact ⟨rfl, rfl⟩
theorem run_six0 (o : OpV) (kk : Nat) (st : StV) (h : callM (sta0 []) o = ((sta0 []).rd 0 kk, st, true)) (hp : st.err ≠ e_panic) :
    runM (sta0 []) (six o) = [st, ⟨[], 0, 0, []⟩, ⟨[], 0, 0, e_error⟩, ⟨[], 0, 0, []⟩, ⟨[], 0, 0, e_end⟩, ⟨[], 0, 0, []⟩] ∧ okM (sta0 []) (six o) = true := by
  unfold six
  rw [runM_next _ _ _ _ _ h hp, okM_next _ _ _ _ _ h hp]
  exact ⟨rfl, rfl⟩
/-- The four kinds of reads. -/
theorem four (l : List UInt8) (z : Nat) (hz : 1 ≤ z) (κ : List UInt8) (hκ : κ = k_readbyte ∨ κ = k_readrune ∨ κ = k_read ∨ κ = k_next) :
    ∃ m kk st, callM (sta0 l) (opS κ z) = ((sta0 l).rd m kk, st, true) ∧ st.err ≠ e_panic ∧ (kk = 1 ∨ kk = 2) ∧ (l = [] → m = 0) ∧ (l ≠ [] → 1 ≤ m ∧ m ≤ l.length) := by
  have hl : l ≠ [] → 1 ≤ l.length := fun h => by cases l; exact absurd rfl h; simp
  rcases hκ with rfl | rfl | rfl | rfl
  · by_cases h0 : l = []
    · exact ⟨0, 1, est e_end, (callM_readbyte _ _ rfl).trans (if_pos h0), by decide, .inl rfl, fun _ => rfl, fun h => absurd h0 h⟩
    · exact ⟨1, 1, _, (callM_readbyte _ _ rfl).trans (if_neg h0), by show [] ≠ _; decide, .inl rfl, fun h => absurd h h0, fun h => ⟨Nat.le_refl _, hl h⟩⟩
  · by_cases h0 : l = []
    · exact ⟨0, 2, est e_end, (callM_readrune _ _ rfl).trans (if_pos h0), by decide, .inr rfl, fun _ => rfl, fun h => absurd h0 h⟩
    · exact ⟨(dec l).2, 2, _, (callM_readrune _ _ rfl).trans (if_neg h0), by show [] ≠ _; decide, .inr rfl, fun h => absurd h h0, fun h => ⟨(dec_size l h).1, (dec_size l h).2.2⟩⟩
  · exact ⟨min z l.length, 1, _, callM_read _ _ rfl, by show (if _ then _ else _) ≠ _; split <;> decide, .inl rfl, fun h => by rw [h]; simp, fun h => by have := hl h; omega⟩
  · exact ⟨min z l.length, 1, _, callM_next _ _ rfl, by show [] ≠ _; decide, .inl rfl, fun h => by rw [h]; simp, fun h => by have := hl h; omega⟩

set_option maxHeartbeats 8000000 in
set_option maxRecDepth 100000 in
theorem FnUnreadByte_walk (A : Option Addr) (n c0 : Nat) (l : List UInt8) (w : World) (a c : Addr) (hV : Env w.heap.size w a c) (hS : Sl w A n l) :
    Calls Tryd.prog 12 #[.slice A n c0] w fun e w' => e = .returned (.bool true) ∧ Below w.heap.size w w' := by
  go_enter Tryd.func12, Tryd.ntmps12
  go_wp2_with fail
  by_cases hn : n ≤ 1048576
  · refine (large_no A n c0 w hn).mono ?_
    rintro e w1 ⟨rfl, rfl⟩
    go_wp2_with fail
    refine (DrawRunBuffer A n c0 l w hS hn).mono ?_
    rintro e w1 ⟨t, B, m, d, rfl, ht, hm, hf1⟩
    have HV := Lib.hid hV
    clear hV hS
    have hK := slv_new w1 #[.string ⟨#[114, 101, 97, 100, 98, 121, 116, 101]⟩, .string ⟨#[114, 101, 97, 100, 114, 117, 110, 101]⟩, .string ⟨#[114, 101, 97, 100]⟩, .string ⟨#[110, 101, 120, 116]⟩] 9
    have hfa : Fr [] w1 (w1.alloc (.cells #[.string ⟨#[114, 101, 97, 100, 98, 121, 116, 101]⟩, .string ⟨#[114, 101, 97, 100, 114, 117, 110, 101]⟩, .string ⟨#[114, 101, 97, 100]⟩, .string ⟨#[110, 101, 120, 116]⟩] 9)) := (Fr.refl [] w1).alloc _
    go_wp2_with fail
    generalize w1.alloc (.cells #[.string ⟨#[114, 101, 97, 100, 98, 121, 116, 101]⟩, .string ⟨#[114, 101, 97, 100, 114, 117, 110, 101]⟩, .string ⟨#[114, 101, 97, 100]⟩, .string ⟨#[110, 101, 120, 116]⟩] 9) = W0 at *
    go_loopw [19] (fun i wr => ∃ k : Nat, k ≤ 4 ∧ i = .int .i64 (k : Int) ∧ Fr [] W0 wr) (fun i _ => 4 - (intOf i).toNat)
    case atStart => exact ⟨0, Nat.zero_le _, rfl, Fr.refl _ _⟩
    case round =>
      obtain ⟨k, hk, rfl, hfr1⟩ := hrel
      have hfr := (hf1.trans hfa).trans hfr1
      by_cases hlt : k < 4
      · obtain ⟨ad, u, hadd, hu, hc⟩ := (hK.fr_old hfr1 (by simp)).at_ (show k < _ from hlt)
        injection hadd with hadd
        subst hadd
        rw [add_at, Nat.zero_add] at hc
        obtain ⟨κ, rfl, hκ⟩ : ∃ κ : List UInt8, u = .string ⟨κ.toArray⟩ ∧ (κ = k_readbyte ∨ κ = k_readrune ∨ κ = k_read ∨ κ = k_next) := by
          have hu' := hu.symm
          rcases (show k = 0 ∨ k = 1 ∨ k = 2 ∨ k = 3 by omega) with rfl | rfl | rfl | rfl
          · exact ⟨k_readbyte, by injection hu', .inl rfl⟩
          · exact ⟨k_readrune, by injection hu', .inr (.inl rfl)⟩
          · exact ⟨k_read, by injection hu', .inr (.inr (.inl rfl))⟩
          · exact ⟨k_next, by injection hu', .inr (.inr (.inr rfl))⟩
        have hkk : κ ∈ kinds := by rcases hκ with rfl | rfl | rfl | rfl <;> decide
        have hz : 1 + m % 3 ≤ 3 := by omega
        obtain ⟨q, kk, st, h1, h2, h3, h4, h5⟩ := four t (1 + m % 3) (by omega) κ hκ
        have okk : ∀ o ∈ six (opS κ (1 + m % 3)), o.Ok ∧ o.n ≤ 1048576 ∧ o.kind ∈ kinds := by
          intro o ho
          simp only [six, List.mem_cons, List.not_mem_nil, or_false] at ho
          rcases ho with rfl | rfl | rfl | rfl | rfl | rfl
          · exact ⟨opS_ok _ _ (by omega), by show (0 : Int) ≤ _; omega, hkk⟩
          all_goals exact ⟨opS_ok _ _ (by omega), by show (0 : Int) ≤ _; omega, by decide⟩
        have hzz : ((1 + m % 3 : Nat) : Int) = 1 + (m : Int) % 3 := by omega
        clear hu hκ hkk
        by_cases h0 : t = []
        · subst h0
          obtain rfl := h4 rfl
          have hr := run_six0 (opS κ (1 + m % 3)) kk st h1 h2
          have hc1 := Lib.hid (run_script [] _ _ w.heap.size wr a c hfr.size (HV.out.fr hfr (by simp)) (by simp [tsum, opS, six]) okk hr.2 hr.1)
          simp only [six, List.flatMap_cons, List.flatMap_nil, OpV.cells, StV.cells, opS, List.cons_append, List.nil_append, List.length_cons, List.length_nil, Nat.zero_add, Nat.reduceAdd] at hc1
          simp only [hzz] at hc1
          clear okk hr h1 h2 h3 h4 h5 hzz
          go_wp2_with fail
          refine hc1.out.mono ?_
          rintro e w2 ⟨B1, d1, rfl, hR1, hf2⟩
          obtain ⟨g1, rfl, ca⟩ := hR1.get (by omega)
          have a11 := ca 11 _ rfl
          have a19 := ca 19 _ rfl
          clear hR1 hc1 ca
          go_wp2_with fail
          go_roundw
          case rel => exact ⟨k + 1, by omega, by go_num, hfr1.trans hf2⟩
          case measure => simp [intOf]; omega
        · obtain ⟨h6, h7⟩ := h5 h0
          obtain ⟨p, rfl⟩ : ∃ p, q = p + 1 := ⟨q - 1, by omega⟩
          have hr := run_six t (opS κ (1 + m % 3)) (p + 1) kk st (by omega) h7 h3 h1 h2
          rw [Nat.add_sub_cancel] at hr
          have hsz : p < (⟨t.toArray⟩ : ByteArray).size := by rw [str_size]; omega
          have hb : byteAt (t.drop p) 0 = ((⟨t.toArray⟩ : ByteArray)[p]).toNat := by
            have : ((⟨t.toArray⟩ : ByteArray)[p]) = t[p] := rfl
            rw [this, byteAt_get _ _ (by rw [List.length_drop]; omega)]
            simp
          rw [hb] at hr
          have hx256 : ((⟨t.toArray⟩ : ByteArray)[p]).toNat < 256 := UInt8.toNat_lt _
          have hyl : (t.drop (p + 1)).length = t.length - (p + 1) := List.length_drop
          generalize t.drop (p + 1) = y at *
          have hta : (t.length : Int) - (y.length : Int) = (p : Int) + 1 := by omega
          have hyle : y.length ≤ 4096 := by omega
          have h0b : (t == []) = false := by simpa using h0
          have h0c : t.isEmpty = false := by cases t; exact absurd rfl h0; rfl
          have hp0 : p ≤ t.length := by omega
          have hp1 : p < t.length := by omega
          have hwr : IntKind.i64.wrap ((p : Int) + 1 - 1) = (p : Int) := by rw [show (p : Int) + 1 - 1 = (p : Int) by omega]; exact IntWalk.i64_in _ (by omega)
          have hwr2 : IntKind.i64.wrap (p : Int) = (p : Int) := IntWalk.i64_in _ (by omega)
          have hc1 := Lib.hid (run_script t _ _ w.heap.size wr a c hfr.size (HV.out.fr hfr (by simp)) (by simp [tsum, opS, six]; omega) okk hr.2 hr.1)
          simp only [six, List.flatMap_cons, List.flatMap_nil, OpV.cells, StV.cells, opS, List.cons_append, List.nil_append, List.length_cons, List.length_nil, Nat.zero_add, Nat.reduceAdd] at hc1
          simp only [hzz] at hc1
          clear okk hr h1 h2 h3 h4 h5 h6 h7 hb hyl hzz
          go_wp2_with fail
          refine hc1.out.mono ?_
          rintro e w2 ⟨B1, d1, rfl, hR1, hf2⟩
          obtain ⟨g1, rfl, ca⟩ := hR1.get (by omega)
          have a4 := ca 4 _ rfl
          have a11 := ca 11 _ rfl
          have a12 := ca 12 _ rfl
          have a17 := ca 17 _ rfl
          have a20 := ca 20 _ rfl
          clear hR1 hc1 ca
          go_wp2_with fail
          go_quiet (fail)
          go_wp2_with fail
          go_roundw
          case rel => exact ⟨k + 1, by omega, by go_num, (hfr1.trans hf2).drewN _⟩
          case measure => simp [intOf]; omega
      · go_wp2_with fail
        go_ret
        exact ⟨rfl, hfr.below (Nat.le_refl _) (by simp)⟩
  · refine (large_yes A n c0 w (by omega)).mono ?_
    rintro e w1 ⟨rfl, rfl⟩
    go_wp2_with fail
    go_ret
    exact ⟨rfl, Below.refl _ _⟩

end Go.Proofs.YtnpaokglfkocnaaDoor
