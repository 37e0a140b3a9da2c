/- What was read is unread: by Read and by Next alike. -/
import Derived.Test.YtnpaokglfkocnaaDoorScripts
import Derived.Test.YtnpaokglfkocnaaDoorDraw4
import Derived.BigQuiet
namespace Go.Proofs.YtnpaokglfkocnaaDoor
open Go.RowKit
set_option linter.unusedVariables false
attribute [local go_sem ↓] Go.wp_at_zero Go.wp_at_succ

set_option maxHeartbeats 8000000 in
set_option maxRecDepth 100000 in
theorem FnUnreadTwice_walk (A : Option Addr) (n c0 : Nat) (l : List UInt8) (w : World) (a c : Addr) (hV : Env w.heap.size w a c) (hS : Sl w A n l) :
    Calls Tryd.prog 14 #[.slice A n c0] w fun e w' => e = .returned (.bool true) ∧ Below w.heap.size w w' := by
  go_enter Tryd.func14, Tryd.ntmps14
  go_wp2_with fail
  by_cases hn : n ≤ 1048576
  · refine (large_no A n c0 w hn).mono ?_
    rintro e w1 ⟨rfl, rfl⟩
    go_wp2_with fail
    refine (DrawReadChunks A n c0 l w hS hn).mono ?_
    rintro e w1 ⟨t, B, m, d, zs, rfl, ht, hm, hB, hz, hf1⟩
    have HV := Lib.hid hV
    clear hV hS
    go_wp2_with fail
    go_loopw [19] (fun i wr => ∃ k, k ≤ m ∧ i = .int .i64 (k : Int) ∧ Fr [] w1 wr) (fun i _ => m - (intOf i).toNat)
    case atStart => exact ⟨0, Nat.zero_le _, rfl, Fr.refl _ _⟩
    case round =>
      obtain ⟨k, hk, rfl, hfr1⟩ := hrel
      have hfr := hf1.trans hfr1
      by_cases hlt : k < m
      · obtain ⟨ad, u, rfl, hu, hc⟩ := (hB.fr_old hfr1 (by simp)).at_ hlt
        rw [List.getElem?_map] at hu
        cases hzk : zs[k]? with
        | none => rw [hzk] at hu; cases hu
        | some z =>
          rw [hzk] at hu
          simp only [Option.map_some, Option.some.injEq] at hu
          subst hu
          have hz1 : z ≤ 4335 := hz z (List.mem_of_getElem? hzk)
          clear hzk
          have hu1 := run_ub t (opS k_read z) (min z t.length) ⟨t.take z, min z t.length, 0, if t = [] ∧ 0 < z then e_end else []⟩ (by omega) (callM_read _ _ rfl) (by show (if _ then _ else _) ≠ _; split <;> decide)
          have hu2 := run_ub t (opS k_next z) (min z t.length) ⟨t.take z, 0, 0, []⟩ (by omega) (callM_next _ _ rfl) (by show [] ≠ _; decide)
          have okk : ∀ o ∈ [opS k_read z, opS k_unreadbyte 0, opS k_string 0], o.Ok ∧ o.n ≤ 1048576 ∧ o.kind ∈ kinds := by
            intro o ho
            simp only [List.mem_cons, List.not_mem_nil, or_false] at ho
            rcases ho with rfl | rfl | rfl
            · exact ⟨opS_ok _ _ (by omega), by show (0 : Int) ≤ _; omega, by show k_read ∈ kinds; decide⟩
            · exact ⟨opS_ok _ _ (by omega), by show (0 : Int) ≤ _; omega, by decide⟩
            · exact ⟨opS_ok _ _ (by omega), by show (0 : Int) ≤ _; omega, by decide⟩
          have okn : ∀ o ∈ [opS k_next z, opS k_unreadbyte 0, opS k_string 0], o.Ok ∧ o.n ≤ 1048576 ∧ o.kind ∈ kinds := by
            intro o ho
            simp only [List.mem_cons, List.not_mem_nil, or_false] at ho
            rcases ho with rfl | rfl | rfl
            · exact ⟨opS_ok _ _ (by omega), by show (0 : Int) ≤ _; omega, by show k_next ∈ kinds; decide⟩
            · exact ⟨opS_ok _ _ (by omega), by show (0 : Int) ≤ _; omega, by decide⟩
            · exact ⟨opS_ok _ _ (by omega), by show (0 : Int) ≤ _; omega, by decide⟩
          have hmi : min (z : Int) (t.length : Int) = ((min z t.length : Nat) : Int) := by omega
          have HMI := Lib.hid hmi
          clear hmi
          by_cases h0 : min z t.length = 0
          · have e1 : ubStep (min z t.length) = ⟨[], 0, 0, e_error⟩ := by simp [ubStep, h0]; rfl
            have e2 : ubText t (min z t.length) = t := by simp [ubText, h0]
            rw [e1, e2] at hu1 hu2
            clear e1 e2
            have hc1 := Lib.hid (run_script t _ _ w.heap.size wr a c hfr.size (HV.out.fr hfr (by simp)) (by simp [tsum, opS]; omega) okk hu1.2 hu1.1)
            have hc2 := Lib.hid fun W (hF : Fr [] w W) => run_script t _ _ w.heap.size W a c hF.size (HV.out.fr hF (by simp)) (by simp [tsum, opS]; omega) okn hu2.2 hu2.1
            simp only [List.flatMap_cons, List.flatMap_nil, OpV.cells, StV.cells, opS, List.cons_append, List.nil_append, List.length_cons, List.length_nil, Nat.zero_add, Nat.reduceAdd] at hc1 hc2
            clear okk okn hu1 hu2
            generalize hee : (if t = [] ∧ 0 < z then e_end else []) = ee at hc1
            clear hee
            go_wp2_with fail
            refine hc1.out.mono ?_
            rintro e w2 ⟨B1, d1, rfl, hR1, hf2⟩
            go_wp2_with fail
            refine (hc2.out w2 (hfr.trans hf2)).mono ?_
            rintro e w3 ⟨B2, d2, rfl, hR2, hf3⟩
            obtain ⟨g1, rfl, ca⟩ := (hR1.fr_old hf3 (by simp)).get (by omega)
            obtain ⟨g2, rfl, cb⟩ := hR2.get (by omega)
            clear hR1 hR2 hc1 hc2
            have a0 := ca 0 _ rfl
            have b0 := cb 0 _ rfl
            have a4 := ca 4 _ rfl
            have b4 := cb 4 _ rfl
            have a5 := ca 5 _ rfl
            have b5 := cb 5 _ rfl
            have a6 := ca 6 _ rfl
            have b6 := cb 6 _ rfl
            have a7 := ca 7 _ rfl
            have b7 := cb 7 _ rfl
            have a8 := ca 8 _ rfl
            have b8 := cb 8 _ rfl
            have a9 := ca 9 _ rfl
            have b9 := cb 9 _ rfl
            have a10 := ca 10 _ rfl
            have b10 := cb 10 _ rfl
            have a11 := ca 11 _ rfl
            have b11 := cb 11 _ rfl
            clear ca cb
            skip
            go_wp2_with fail
            go_quiet (fail)
            go_wp2_with fail
            clear a0 a4 a5 a6 a9 a10 a11 b0 b4 b5 b6 b7 b8 b9 b10 b11
            rw [HMI.out, h0]
            go_quiet (fail)
            go_wp2_with fail
            go_roundw
            case rel => exact ⟨k + 1, by omega, by go_num, ((hfr1.trans hf2).trans hf3).drewN _⟩
            case measure => simp [intOf]; omega
          · have e1 : ubStep (min z t.length) = ⟨[], 0, 0, []⟩ := by simp [ubStep, h0]; rfl
            obtain ⟨p, hp⟩ : ∃ p, min z t.length = p + 1 := ⟨min z t.length - 1, by omega⟩
            have hpl : p + 1 ≤ t.length := by omega
            have e2 : ubText t (min z t.length) = t.drop p := by rw [hp]; simp [ubText]
            have HP := Lib.hid hp
            rw [e1, e2] at hu1 hu2
            clear e1 e2 hp
            have hc1 := Lib.hid (run_script t _ _ w.heap.size wr a c hfr.size (HV.out.fr hfr (by simp)) (by simp [tsum, opS]; omega) okk hu1.2 hu1.1)
            have hc2 := Lib.hid fun W (hF : Fr [] w W) => run_script t _ _ w.heap.size W a c hF.size (HV.out.fr hF (by simp)) (by simp [tsum, opS]; omega) okn hu2.2 hu2.1
            simp only [List.flatMap_cons, List.flatMap_nil, OpV.cells, StV.cells, opS, List.cons_append, List.nil_append, List.length_cons, List.length_nil, Nat.zero_add, Nat.reduceAdd] at hc1 hc2
            clear okk okn hu1 hu2
            generalize hee : (if t = [] ∧ 0 < z then e_end else []) = ee at hc1
            clear hee
            go_wp2_with fail
            refine hc1.out.mono ?_
            rintro e w2 ⟨B1, d1, rfl, hR1, hf2⟩
            go_wp2_with fail
            refine (hc2.out w2 (hfr.trans hf2)).mono ?_
            rintro e w3 ⟨B2, d2, rfl, hR2, hf3⟩
            obtain ⟨g1, rfl, ca⟩ := (hR1.fr_old hf3 (by simp)).get (by omega)
            obtain ⟨g2, rfl, cb⟩ := hR2.get (by omega)
            clear hR1 hR2 hc1 hc2
            have a0 := ca 0 _ rfl
            have b0 := cb 0 _ rfl
            have a4 := ca 4 _ rfl
            have b4 := cb 4 _ rfl
            have a5 := ca 5 _ rfl
            have b5 := cb 5 _ rfl
            have a6 := ca 6 _ rfl
            have b6 := cb 6 _ rfl
            have a7 := ca 7 _ rfl
            have b7 := cb 7 _ rfl
            have a8 := ca 8 _ rfl
            have b8 := cb 8 _ rfl
            have a9 := ca 9 _ rfl
            have b9 := cb 9 _ rfl
            have a10 := ca 10 _ rfl
            have b10 := cb 10 _ rfl
            have a11 := ca 11 _ rfl
            have b11 := cb 11 _ rfl
            clear ca cb
            skip
            go_wp2_with fail
            go_quiet (fail)
            go_wp2_with fail
            clear a0 a4 a5 a6 a9 a10 a11 b0 b4 b5 b6 b7 b8 b9 b10 b11
            rw [HMI.out, HP.out, Int.natCast_add]
            clear h0
            rw [Int.natCast_one]
            have hpi : (((p : Int) + 1) == 0) = false := by simp; omega
            have hpj : decide ((0 : Int) < (p : Int) + 1) = true := decide_eq_true (by omega)
            have hp0 : p ≤ t.length := by omega
            have hwr : IntKind.i64.wrap ((p : Int) + 1 - 1) = (p : Int) := by rw [show (p : Int) + 1 - 1 = (p : Int) by omega]; exact IntWalk.i64_in _ (by omega)
            have hwr2 : IntKind.i64.wrap (p : Int) = (p : Int) := IntWalk.i64_in _ (by omega)
            go_quiet (fail)
            go_wp2_with fail
            go_roundw
            case rel => exact ⟨k + 1, by omega, by go_num, ((hfr1.trans hf2).trans hf3).drewN _⟩
            case measure => simp [intOf]; omega
      · go_wp2_with fail
        go_ret
        exact ⟨rfl, hfr.below (Nat.le_refl _) (by simp)⟩
  · refine (large_yes A n c0 w (by omega)).mono ?_
    rintro e w1 ⟨rfl, rfl⟩
    go_wp2_with fail
    go_ret
    exact ⟨rfl, Below.refl _ _⟩

end Go.Proofs.YtnpaokglfkocnaaDoor
