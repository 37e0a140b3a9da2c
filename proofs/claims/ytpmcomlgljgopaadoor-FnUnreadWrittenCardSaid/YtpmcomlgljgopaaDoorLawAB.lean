/- What was read before a write is not unread. -/
import Derived.Test.YtpmcomlgljgopaaDoorScripts
import Derived.Test.YtpmcomlgljgopaaDoorDrawT
import Derived.BigQuiet
namespace Go.Proofs.YtpmcomlgljgopaaDoor
open Go.RowKit
set_option linter.unusedVariables false
attribute [local go_sem ↓] Go.wp_at_zero Go.wp_at_succ

def five (κ x : List UInt8) : List OpV := [opS k_readbyte 0, ⟨κ, x, 0, 0, 120⟩, opS k_string 0, opS k_unreadbyte 0, opS k_string 0]
theorem wr_begun (s : Sta) (d : List UInt8) (h : s.begun = true) : s.wr d = ⟨s.text ++ d, 4, [], true⟩ := by simp [Sta.wr, h]
theorem run_five (l κ x : List UInt8) (hκ : κ = k_write ∨ κ = k_writestring ∨ κ = k_writebyte ∨ κ = k_writerune) :
    ∃ st1 st2 y, runM (sta0 l) (five κ x) = [st1, st2, ⟨y, 0, 0, []⟩, ⟨[], 0, 0, e_error⟩, ⟨y, 0, 0, []⟩] ∧ okM (sta0 l) (five κ x) = true := by
  have hnil : ([] : List UInt8) ≠ e_panic := by decide
  obtain ⟨s1, st1, c1, hb, hp1⟩ : ∃ s1 st1, callM (sta0 l) (opS k_readbyte 0) = (s1, st1, true) ∧ s1.begun = true ∧ st1.err ≠ e_panic := by
    by_cases h0 : l = []
    · exact ⟨_, est e_end, (callM_readbyte _ _ rfl).trans (if_pos h0), rfl, by decide⟩
    · exact ⟨_, _, (callM_readbyte _ _ rfl).trans (if_neg h0), rfl, hnil⟩
  obtain ⟨dd, st2, c2, hp2⟩ : ∃ dd st2, callM s1 ⟨κ, x, 0, 0, 120⟩ = (s1.wr dd, st2, true) ∧ st2.err ≠ e_panic := by
    rcases hκ with rfl | rfl | rfl | rfl
    · exact ⟨_, _, callM_write _ _ rfl, hnil⟩
    · exact ⟨_, _, callM_writestring _ _ rfl, hnil⟩
    · exact ⟨_, _, callM_writebyte _ _ rfl, hnil⟩
    · exact ⟨_, _, callM_writerune _ _ rfl, hnil⟩
  rw [wr_begun s1 dd hb] at c2
  generalize s1.text ++ dd = y at c2
  refine ⟨st1, st2, y, ?_⟩
  unfold five
  have c3 : callM ⟨y, 4, [], true⟩ (opS k_string 0) = (⟨y, 4, [], true⟩, ⟨y, 0, 0, []⟩, true) := callM_string _ _ rfl
  have c4 : callM ⟨y, 4, [], true⟩ (opS k_unreadbyte 0) = (⟨y, 4, [], true⟩, ⟨[], 0, 0, e_error⟩, true) := callM_unreadbyte _ _ rfl
  rw [runM_next _ _ _ _ _ c1 hp1, okM_next _ _ _ _ _ c1 hp1, runM_next _ _ _ _ _ c2 hp2, okM_next _ _ _ _ _ c2 hp2, runM_next _ _ _ _ _ c3 hnil, okM_next _ _ _ _ _ c3 hnil, runM_next _ _ _ _ _ c4 (by show e_error ≠ _; decide), okM_next _ _ _ _ _ c4 (by show e_error ≠ _; decide), runM_next _ _ _ _ _ c3 hnil, okM_next _ _ _ _ _ c3 hnil]
  exact ⟨rfl, rfl⟩

set_option maxHeartbeats 8000000 in
set_option maxRecDepth 100000 in
theorem FnUnreadWritten_walk (A : Option Addr) (n c0 : Nat) (l : List UInt8) (w : World) (a c : Addr) (hV : Env w.heap.size w a c) (hS : Sl w A n l) :
    Calls Tryd.prog 3 #[.slice A n c0] w fun e w' => e = .returned (.bool true) ∧ Below w.heap.size w w' := by
  go_enter Tryd.func3, Tryd.ntmps3
  go_wp2_with fail
  by_cases hn : n ≤ 1048576
  · refine (large_no A n c0 w hn).mono ?_
    rintro e w1 ⟨rfl, rfl⟩
    go_wp2_with fail
    refine (DrawRunBuffer A n c0 l w hS hn).mono ?_
    rintro e w1 ⟨t, B, m, d, rfl, ht, hm, hf1⟩
    have HV := Lib.hid hV
    clear hV hS
    have hK := slv_new w1 #[.string ⟨#[119, 114, 105, 116, 101]⟩, .string ⟨#[119, 114, 105, 116, 101, 115, 116, 114, 105, 110, 103]⟩, .string ⟨#[119, 114, 105, 116, 101, 98, 121, 116, 101]⟩, .string ⟨#[119, 114, 105, 116, 101, 114, 117, 110, 101]⟩] 9
    have hfa : Fr [] w1 (w1.alloc (.cells #[.string ⟨#[119, 114, 105, 116, 101]⟩, .string ⟨#[119, 114, 105, 116, 101, 115, 116, 114, 105, 110, 103]⟩, .string ⟨#[119, 114, 105, 116, 101, 98, 121, 116, 101]⟩, .string ⟨#[119, 114, 105, 116, 101, 114, 117, 110, 101]⟩] 9)) := (Fr.refl [] w1).alloc _
    go_wp2_with fail
    generalize w1.alloc (.cells #[.string ⟨#[119, 114, 105, 116, 101]⟩, .string ⟨#[119, 114, 105, 116, 101, 115, 116, 114, 105, 110, 103]⟩, .string ⟨#[119, 114, 105, 116, 101, 98, 121, 116, 101]⟩, .string ⟨#[119, 114, 105, 116, 101, 114, 117, 110, 101]⟩] 9) = W0 at *
    go_loopw [18] (fun i wr => ∃ k : Nat, k ≤ 4 ∧ i = .int .i64 (k : Int) ∧ Fr [] W0 wr) (fun i _ => 4 - (intOf i).toNat)
    case atStart => exact ⟨0, Nat.zero_le _, rfl, Fr.refl _ _⟩
    case round =>
      obtain ⟨k, hk, rfl, hfr1⟩ := hrel
      have hfr := (hf1.trans hfa).trans hfr1
      by_cases hlt : k < 4
      · obtain ⟨ad, u, hadd, hu, hc⟩ := (hK.fr_old hfr1 (by simp)).at_ (show k < _ from hlt)
        injection hadd with hadd
        subst hadd
        rw [add_at, Nat.zero_add] at hc
        obtain ⟨κ, rfl, hκ⟩ : ∃ κ : List UInt8, u = .string ⟨κ.toArray⟩ ∧ (κ = k_write ∨ κ = k_writestring ∨ κ = k_writebyte ∨ κ = k_writerune) := by
          have hu' := hu.symm
          rcases (show k = 0 ∨ k = 1 ∨ k = 2 ∨ k = 3 by omega) with rfl | rfl | rfl | rfl
          · exact ⟨k_write, by injection hu', .inl rfl⟩
          · exact ⟨k_writestring, by injection hu', .inr (.inl rfl)⟩
          · exact ⟨k_writebyte, by injection hu', .inr (.inr (.inl rfl))⟩
          · exact ⟨k_writerune, by injection hu', .inr (.inr (.inr rfl))⟩
        have hkk : κ ∈ kinds := by rcases hκ with rfl | rfl | rfl | rfl <;> decide
        have hsc : ∀ x : List UInt8, x.length ≤ 3 → ∃ (st1 st2 : StV) (y : List UInt8), Calls Tryd.prog 8 #[.string ⟨t.toArray⟩, .slice (some ⟨wr.heap.size, 0, none⟩) 5 5] (wr.alloc (.cells ((five κ x).flatMap OpV.cells).toArray 30)) fun e w' => ∃ (B : Option Addr) (d : Nat), e = .returned (.slice B 5 d) ∧ Rs w' B 5 4 ([st1, st2, ⟨y, 0, 0, []⟩, ⟨[], 0, 0, e_error⟩, ⟨y, 0, 0, []⟩].flatMap StV.cells) ∧ Fr [] wr w' := by
          intro x hx
          obtain ⟨st1, st2, y, h1, h2⟩ := run_five t κ x hκ
          refine ⟨st1, st2, y, run_script t (five κ x) _ w.heap.size wr a c hfr.size (HV.out.fr hfr (by simp)) (by simp [tsum, opS, five]; omega) ?_ h2 h1⟩
          intro o ho
          simp only [five, List.mem_cons, List.not_mem_nil, or_false] at ho
          rcases ho with rfl | rfl | rfl | rfl | rfl
          · exact ⟨opS_ok _ _ (by omega), by show (0 : Int) ≤ _; omega, by decide⟩
          · exact ⟨⟨by show 0 ≤ _; omega, by show (_ : Int) ≤ 0; omega, by show (0 : Int) ≤ _; omega, by show (_ : Int) ≤ 120; omega, by show (120 : Int) ≤ _; omega⟩, by show (0 : Int) ≤ _; omega, hkk⟩
          all_goals exact ⟨opS_ok _ _ (by omega), by show (0 : Int) ≤ _; omega, by decide⟩
        clear hu hκ hkk
        rcases (show m % 4 = 0 ∨ m % 4 = 1 ∨ m % 4 = 2 ∨ m % 4 = 3 by omega) with hj | hj | hj | hj
        · have hmi : (m : Int) % 4 = 0 := by omega
          obtain ⟨st1, st2, y, hc1⟩ := hsc [] (by simp)
          simp only [five, List.flatMap_cons, List.flatMap_nil, OpV.cells, StV.cells, opS, List.cons_append, List.nil_append] at hc1
          have HC := Lib.hid hc1
          clear hsc hc1 hj
          go_wp2_with fail
          refine HC.out.mono ?_
          rintro e w2 ⟨B1, d1, rfl, hR1, hf2⟩
          obtain ⟨g1, rfl, ca⟩ := hR1.get (by omega)
          have a8 := ca 8 _ rfl
          have a15 := ca 15 _ rfl
          have a16 := ca 16 _ rfl
          clear hR1 HC ca
          go_wp2_with fail
          go_quiet (fail)
          go_wp2_with fail
          go_roundw
          case rel => exact ⟨k + 1, by omega, by go_num, (hfr1.trans hf2).drewN _⟩
          case measure => simp [intOf]; omega
        · have hmi : (m : Int) % 4 = 1 := by omega
          obtain ⟨st1, st2, y, hc1⟩ := hsc [120] (by simp)
          simp only [five, List.flatMap_cons, List.flatMap_nil, OpV.cells, StV.cells, opS, List.cons_append, List.nil_append] at hc1
          have HC := Lib.hid hc1
          clear hsc hc1 hj
          go_wp2_with fail
          refine HC.out.mono ?_
          rintro e w2 ⟨B1, d1, rfl, hR1, hf2⟩
          obtain ⟨g1, rfl, ca⟩ := hR1.get (by omega)
          have a8 := ca 8 _ rfl
          have a15 := ca 15 _ rfl
          have a16 := ca 16 _ rfl
          clear hR1 HC ca
          go_wp2_with fail
          go_quiet (fail)
          go_wp2_with fail
          go_roundw
          case rel => exact ⟨k + 1, by omega, by go_num, (hfr1.trans hf2).drewN _⟩
          case measure => simp [intOf]; omega
        · have hmi : (m : Int) % 4 = 2 := by omega
          obtain ⟨st1, st2, y, hc1⟩ := hsc [120, 121] (by simp)
          simp only [five, List.flatMap_cons, List.flatMap_nil, OpV.cells, StV.cells, opS, List.cons_append, List.nil_append] at hc1
          have HC := Lib.hid hc1
          clear hsc hc1 hj
          go_wp2_with fail
          refine HC.out.mono ?_
          rintro e w2 ⟨B1, d1, rfl, hR1, hf2⟩
          obtain ⟨g1, rfl, ca⟩ := hR1.get (by omega)
          have a8 := ca 8 _ rfl
          have a15 := ca 15 _ rfl
          have a16 := ca 16 _ rfl
          clear hR1 HC ca
          go_wp2_with fail
          go_quiet (fail)
          go_wp2_with fail
          go_roundw
          case rel => exact ⟨k + 1, by omega, by go_num, (hfr1.trans hf2).drewN _⟩
          case measure => simp [intOf]; omega
        · have hmi : (m : Int) % 4 = 3 := by omega
          obtain ⟨st1, st2, y, hc1⟩ := hsc [120, 121, 122] (by simp)
          simp only [five, List.flatMap_cons, List.flatMap_nil, OpV.cells, StV.cells, opS, List.cons_append, List.nil_append] at hc1
          have HC := Lib.hid hc1
          clear hsc hc1 hj
          go_wp2_with fail
          refine HC.out.mono ?_
          rintro e w2 ⟨B1, d1, rfl, hR1, hf2⟩
          obtain ⟨g1, rfl, ca⟩ := hR1.get (by omega)
          have a8 := ca 8 _ rfl
          have a15 := ca 15 _ rfl
          have a16 := ca 16 _ rfl
          clear hR1 HC ca
          go_wp2_with fail
          go_quiet (fail)
          go_wp2_with fail
          go_roundw
          case rel => exact ⟨k + 1, by omega, by go_num, (hfr1.trans hf2).drewN _⟩
          case measure => simp [intOf]; omega
      · go_wp2_with fail
        go_ret
        exact ⟨rfl, hfr.below (Nat.le_refl _) (by simp)⟩
  · refine (large_yes A n c0 w (by omega)).mono ?_
    rintro e w1 ⟨rfl, rfl⟩
    go_wp2_with fail
    go_ret
    exact ⟨rfl, Below.refl _ _⟩

end Go.Proofs.YtpmcomlgljgopaaDoor
