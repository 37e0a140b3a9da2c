/- The calls of a script on a builder return what the reference tells. -/
import Derived.Test.YtgjaeggpaomoaaaDoorBldR
import Derived.Test.YtgjaeggpaomoaaaDoorSpecRun
namespace Go.Proofs.YtgjaeggpaomoaaaDoor
open Go.RowKit
set_option linter.unusedVariables false
attribute [local go_sem ↓] Go.wp_at_zero Go.wp_at_succ

set_option maxHeartbeats 1600000 in
theorem spec_Builds (o : OpV) (w : World) : Calls Tryd.prog 12 #[o.val] w fun e w' => e = .returned (.bool (decide (o.kind ∈ bkinds))) ∧ Fr [] w w' := by
  have hfa : ∀ ob, Fr [] w (w.alloc ob) := fun ob => (Fr.refl [] w).alloc ob
  by_cases hk : o.kind ∈ bkinds
  · rw [decide_eq_true hk]
    obtain ⟨kind, text, size, n, char⟩ := o
    unfold OpV.val
    simp only [bkinds, List.mem_cons, List.not_mem_nil, or_false] at hk
    rcases hk with rfl | rfl | rfl | rfl | rfl | rfl | rfl | rfl
    all_goals
      go_enter Tryd.func12, Tryd.ntmps12
      go_wp2_with fail
      go_ret
      exact ⟨rfl, hfa _⟩
  · rw [decide_eq_false hk]
    obtain ⟨kind, text, size, n, char⟩ := o
    unfold OpV.val
    simp only [bkinds, List.mem_cons, List.not_mem_nil, or_false, not_or] at hk
    obtain ⟨q0, q1, q2, q3, q4, q5, q6, q7⟩ := hk
    have b0 : (kind == [119, 114, 105, 116, 101]) = false := by simpa using q0
    have b1 : (kind == [119, 114, 105, 116, 101, 115, 116, 114, 105, 110, 103]) = false := by simpa using q1
    have b2 : (kind == [119, 114, 105, 116, 101, 98, 121, 116, 101]) = false := by simpa using q2
    have b3 : (kind == [119, 114, 105, 116, 101, 114, 117, 110, 101]) = false := by simpa using q3
    have b4 : (kind == [103, 114, 111, 119]) = false := by simpa using q4
    have b5 : (kind == [114, 101, 115, 101, 116]) = false := by simpa using q5
    have b6 : (kind == [108, 101, 110]) = false := by simpa using q6
    have b7 : (kind == [115, 116, 114, 105, 110, 103]) = false := by simpa using q7
    clear q0 q1 q2 q3 q4 q5 q6 q7
    go_enter Tryd.func12, Tryd.ntmps12
    go_wp2_with fail
    go_ret
    exact ⟨rfl, hfa _⟩


theorem size29 : (Tryd.prog.info? 29).map (fun i => i.size) = some 5 := by kernel_rfl
/-- The head of a slice whose elements have any number of cells. -/
theorem run_head {P : Program} (t e : TypeId) (ht : P.underlying t = some (.slice e)) (sz : Nat) (hsz : (P.info? e).map (fun i => i.size) = some sz) (A : Option Addr) (len cap : Nat) (W : World) (h : Nat) (hh : h ≤ cap) : (Instr.slice t (.slice A len cap) none (some (.int .i64 (h : Int))) none).run P W = .ok (.slice A h cap) W := by
  have he : P.elem t = e := by unfold Program.elem; simp [ht]
  have hs : (sizeOf (P.elem t)).run P W = .ok sz W := by
    cases hi : P.info? e with
    | none => simp [hi] at hsz
    | some i => simp [hi] at hsz; simp [he, sizeOf, typeInfo, hi, hsz]
  rw [run_slice_h (P := P) W t A len cap (by rw [he]; exact ht) .i64 h (by omega) (by omega), hs]
  simp [Result.andThen, sliced]
  intro _
  cases A <;> simp [Addr.add]
theorem Rg.head {w : World} {A : Option Addr} {n : Nat} {os : List OpV} (h : Rg w A n 5 (os.flatMap OpV.cells)) (hn : n = os.length) (k : Nat) (hk : k ≤ n) : Rg w A k 5 ((os.take k).flatMap OpV.cells) := by
  have e : (os.take k).flatMap OpV.cells = (os.flatMap OpV.cells).take (k * 5) := by
    have h1 : os.flatMap OpV.cells = (os.take k).flatMap OpV.cells ++ (os.drop k).flatMap OpV.cells := by rw [← List.flatMap_append, List.take_append_drop]
    have h2 : ((os.take k).flatMap OpV.cells).length = k * 5 := by rw [recs_length OpV.cells 5 (fun _ => rfl), List.length_take]; congr 1; omega
    rw [h1, ← h2, List.take_left]
  have hl : ((os.take k).flatMap OpV.cells).length = k * 5 := by rw [recs_length OpV.cells 5 (fun _ => rfl), List.length_take]; congr 1; omega
  refine ⟨hl, fun h0 => ?_⟩
  obtain ⟨ad, rfl, hc⟩ := h.2 (by omega)
  refine ⟨ad, rfl, fun j hj => ?_⟩
  have hj2 : j < (os.flatMap OpV.cells).length := by rw [h.1]; rw [hl] at hj; have := Nat.mul_le_mul_right 5 hk; omega
  rw [hc j hj2]
  congr 1
  have h3 : ((os.take k).flatMap OpV.cells)[j]? = (os.flatMap OpV.cells)[j]? := by rw [e, List.getElem?_take]; rw [hl] at hj; simp [hj]
  rw [List.getElem?_eq_getElem hj, List.getElem?_eq_getElem hj2] at h3
  exact (Option.some.inj h3).symm

set_option maxHeartbeats 3200000 in
set_option maxRecDepth 100000 in
theorem spec_Build (A : Option Addr) (n c : Nat) (os : List OpV) (w : World) (hS : Rg w A n 5 (os.flatMap OpV.cells)) (hn : n = os.length) (hnc : n ≤ c) (hN : tsum os + n ≤ 1048576) (hok : ∀ o ∈ os, o.Ok) :
    Calls Tryd.prog 21 #[.slice A n c] w fun e w' => ∃ (B : Option Addr) (m d : Nat) (sts : List StV) (k : Nat), e = .returned (.slice B m d) ∧ Rs w' B m 4 (sts.flatMap StV.cells) ∧ m = sts.length ∧ m ≤ n ∧ Hid ((∀ o ∈ os.take k, o.kind ∈ bkinds) ∧ sts = runS (sta0 []) (os.take k)) ∧ Fr [] w w' := by
  have HN := Lib.hid hn
  have HOK := Lib.hid hok
  clear hn hok
  go_enter Tryd.func21, Tryd.ntmps21
  go_wp2_with fail
  go_loopw [7] (fun i wr => ∃ k, k ≤ n ∧ i = .int .i64 (k : Int) ∧ Hid (∀ o ∈ os.take k, o.kind ∈ bkinds) ∧ Fr [] w wr) (fun i _ => n - (intOf i).toNat)
  case atStart => exact ⟨0, Nat.zero_le _, rfl, by show ∀ _, _; simp, Fr.refl [] w⟩
  case round =>
    obtain ⟨k, hk, rfl, HK, hf⟩ := hrel
    have htk : tsum (os.take k) ≤ tsum os := by
      have h2 : tsum (os.take k ++ os.drop k) = tsum (os.take k) + tsum (os.drop k) := by
        unfold tsum
        rw [List.map_append, List.sum_append]
      rw [List.take_append_drop] at h2
      omega
    have hrun := Lib.hid fun W (hF : Fr [] w W) => spec_Run [] A k c (os.take k) W ((hS.fr_old hF (by simp)).head HN.out k hk) (by rw [List.length_take]; have := HN.out; omega) (by simp; omega) (fun o ho => HOK.out o (List.mem_of_mem_take ho))
    by_cases hlt : k < n
    · obtain ⟨o, hox⟩ : ∃ o, os[k]? = some o := ⟨_, List.getElem?_eq_getElem (by have := HN.out; omega)⟩
      obtain ⟨ad, rfl, cg0, cg⟩ := (hS.fr_old hf (by simp)).get (by omega)
      have g5 := fun j h => recs_get OpV.cells 5 (fun _ => rfl) os k j o hox h
      have x0 := cg0 _ _ ((g5 0 (by omega)).trans rfl)
      have x1 := cg _ 0 _ ((g5 1 (by omega)).trans rfl)
      have x2 := cg _ 1 _ ((g5 2 (by omega)).trans rfl)
      have x3 := cg _ 2 _ ((g5 3 (by omega)).trans rfl)
      have x4 := cg _ 3 _ ((g5 4 (by omega)).trans rfl)
      simp only [Nat.add_zero, Nat.zero_add, Nat.reduceAdd] at x0 x1 x2 x3 x4
      have hbu := Lib.hid fun W => spec_Builds o W
      unfold OpV.val at hbu
      have hsl := fun W => run_head (P := Tryd.prog) 25 29 Tryd.underlying25 5 size29 (some ad) n c W k (by omega)
      have HOX := Lib.hid hox
      clear cg0 cg g5 hox
      go_wp2_with fail
      refine (hbu.out _).mono ?_
      rintro e w2 ⟨rfl, hf2⟩
      have hfw := (hf.alloc _).trans hf2
      by_cases hb : o.kind ∈ bkinds
      · rw [decide_eq_true hb]
        have HBK := Lib.hid hb
        clear hb
        go_wp2_with fail
        go_roundw
        case rel =>
          refine ⟨k + 1, by omega, by go_num, ?_, hfw⟩
          intro x hx
          rw [take_next os k o HOX.out] at hx
          rcases List.mem_append.1 hx with h1 | h1
          · exact HK.out x h1
          · simp only [List.mem_singleton] at h1
            rw [h1]
            exact HBK.out
        case measure => simp [intOf]; omega
      · rw [decide_eq_false hb]
        clear hb
        go_wp2_with fail
        refine (hrun.out w2 hfw).mono ?_
        rintro e w3 ⟨B, m, d, sts, rfl, hR, hm, hmn, H, hf3⟩
        have HR := Lib.hid hR
        have HMM := Lib.hid hm
        clear hR hm
        go_wp2_with fail
        go_ret
        exact ⟨B, m, d, sts, k, rfl, HR.out, HMM.out, by omega, ⟨HK.out, H.out⟩, hfw.trans hf3⟩
    · obtain rfl : k = n := by omega
      go_wp2_with fail
      refine (hrun.out wr hf).mono ?_
      rintro e w3 ⟨B, m, d, sts, rfl, hR, hm, hmn, H, hf3⟩
      have HR := Lib.hid hR
      have HMM := Lib.hid hm
      clear hR hm
      go_wp2_with fail
      go_ret
      exact ⟨B, m, d, sts, k, rfl, HR.out, HMM.out, by omega, ⟨HK.out, H.out⟩, hf.trans hf3⟩

theorem runB_take : ∀ (os : List OpV) (t : List UInt8) (k : Nat), runB t (os.take k) <+: runB t os
  | [], t, k => by simp
  | o :: r, t, 0 => by simp [runB]
  | o :: r, t, k + 1 => by
    have ih := runB_take r (callB t o).1 k
    rw [List.take_succ_cons]
    unfold runB
    by_cases hp : (callB t o).2.err = e_panic
    · rw [if_pos hp, if_pos hp]
      exact List.prefix_refl _
    · rw [if_neg hp, if_neg hp]
      exact (List.prefix_cons_inj _).2 ih
theorem bkinds_tk (k : List UInt8) (h : k ∈ bkinds) : k ∈ tkinds := by
  revert h
  unfold bkinds tkinds
  simp only [List.mem_cons, List.not_mem_nil, or_false]
  intro h
  rcases h with e | e | e | e | e | e | e | e <;> simp [e]
theorem build_pre (os : List OpV) (k : Nat) (h : ∀ o ∈ os.take k, o.kind ∈ bkinds) : runS (sta0 []) (os.take k) <+: runB [] os := by
  have h1 := runS_pre (os.take k) (sta0 [])
  rw [(runM_text (os.take k) (sta0 []) (fun o ho => bkinds_tk _ (h o ho))).1] at h1
  have h2 := runB_text (os.take k) [] h
  have h3 := runB_take os [] k
  rw [h2] at h3
  exact h1.trans h3
theorem own_cap5 {w : World} {base : Nat} {e : TypeId} {size n c : Nat} {A : Option Addr} {xs : List Value} (h : w.ownsRow base e size (.slice A n c) n xs) : n ≤ c := by
  rcases h.2 with ⟨hv, h0⟩ | ⟨g, cap, cur, hv, _, _, hc, _⟩
  · omega
  · injection hv with _ _ hc'
    omega

set_option maxHeartbeats 1600000 in
set_option maxRecDepth 100000 in
theorem FnExactRunBuilder_walk (A : Option Addr) (n c : Nat) (os : List OpV) (w : World) (hS : Rg w A n 5 (os.flatMap OpV.cells)) (hn : n = os.length) (hok : ∀ o ∈ os, o.Ok) (hN : tsum os + n ≤ 1048576) :
    Calls Tryd.prog 5 #[.slice A n c] w fun e w' => e = .returned (.bool true) ∧ Below w.heap.size w w' := by
  have h0 := Lib.hid (laws_specOps A n c os w hS hn (by omega))
  have HN := Lib.hid hn
  have HOK := Lib.hid hok
  clear hn hok
  go_enter Tryd.func5, Tryd.ntmps5
  go_wp2_with fail
  refine h0.out.mono ?_
  rintro e w1 ⟨A1, c1, rfl, ho1, hf1⟩
  have hR1 := (own_rs ho1).rg
  have hc1 := own_cap5 ho1
  have hla := Lib.hid (spec_Large A1 n c1 os w1 hR1 HN.out (by omega) HOK.out)
  have hrb := Lib.hid fun W (hF : Fr [] w W) (hg : ∀ o ∈ os, o.kind = k_grow → o.n ≤ 1048576) => impl_RunBuilder A n c os W (hS.fr_old hF (by simp)) HN.out hN (fun o ho => ⟨HOK.out o ho, hg o ho⟩)
  have hsb := Lib.hid fun W (hF : Fr [] w1 W) => spec_Build A1 n c1 os W (hR1.fr_old hF (by simp)) HN.out hc1 hN HOK.out
  clear hS ho1 hR1
  go_wp2_with fail
  refine hla.out.mono ?_
  rintro e w2 ⟨b, rfl, HL, hf2⟩
  cases b
  · obtain ⟨_, hg⟩ := HL.out rfl
    have h1 := Lib.hid (hrb.out w2 (hf1.trans hf2) hg)
    clear hg HL hrb hla
    go_wp2_with fail
    refine h1.out.mono ?_
    rintro e w3 ⟨B, m, d, sts, rfl, hR3, hm3, hmn3, H3, hf3⟩
    have HM3 := Lib.hid hm3
    clear hm3
    go_wp2_with fail
    refine (hsb.out w3 (hf2.trans hf3)).mono ?_
    rintro e w4 ⟨B4, m4, d4, sts4, k4, rfl, hR4, hm4, hmn4, H4, hf4⟩
    have hss := Lib.hid (sameSteps_true B B4 m m4 d d4 sts sts4 w4 (hR3.fr_old hf4 (by simp)) hR4 HM3.out hm4 (by omega) (by rw [H3.out, H4.out.2]; exact build_pre os k4 H4.out.1))
    clear hR3 hR4 hm4 H3 H4
    go_wp2_with fail
    refine hss.out.mono ?_
    rintro e w5 ⟨rfl, hf5⟩
    go_wp2_with fail
    go_ret
    exact ⟨rfl, ((((hf1.trans hf2).trans hf3).trans hf4).trans hf5).below (Nat.le_refl _) (by simp)⟩
  · go_wp2_with fail
    go_ret
    exact ⟨rfl, (hf1.trans hf2).below (Nat.le_refl _) (by simp)⟩

end Go.Proofs.YtgjaeggpaomoaaaDoor
