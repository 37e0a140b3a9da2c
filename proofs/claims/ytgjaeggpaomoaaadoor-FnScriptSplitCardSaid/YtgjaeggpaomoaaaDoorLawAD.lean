/- A script that only writes and reads is done as its calls one by one. -/
import Derived.Test.YtgjaeggpaomoaaaDoorLawAE
namespace Go.Proofs.YtgjaeggpaomoaaaDoor
open Go.RowKit
set_option linter.unusedVariables false
attribute [local go_sem ↓] Go.wp_at_zero Go.wp_at_succ

theorem step_string (t : List UInt8) : stepT t (opS k_string 0) = ⟨t, 0, 0, []⟩ := by
  unfold stepT
  rw [callM_string _ _ rfl]
  rfl
theorem opS_string_ok : (opS k_string 0).Ok := opS_ok _ _ (by omega)
/-- A script with a look at the end. -/
theorem run_split (t : List UInt8) (ps : List OpV) (h : ∀ o ∈ ps, o.kind ∈ skinds) : runM (sta0 t) (ps ++ [opS k_string 0]) = stepsT t (ps ++ [opS k_string 0]) ∧ okM (sta0 t) (ps ++ [opS k_string 0]) = true := by
  have h1 := runM_text (ps ++ [opS k_string 0]) (sta0 t) (fun o ho => by
    rcases List.mem_append.1 ho with h1 | h1
    · exact skinds_t _ (h o h1)
    · simp only [List.mem_singleton] at h1
      rw [h1]
      decide)
  have h2 := runT_calm (ps ++ [opS k_string 0]) t (fun t o ho => by
    rcases List.mem_append.1 ho with h1 | h1
    · exact step_calm t o (h o h1)
    · simp only [List.mem_singleton] at h1
      rw [h1, step_string]
      show ([] : List UInt8) ≠ e_panic
      decide)
  exact ⟨h1.1.trans h2, h1.2⟩
theorem run_pair (t : List UInt8) (o : OpV) (h : o.kind ∈ skinds) : runM (sta0 t) [o, opS k_string 0] = [stepT t o, ⟨nextT t o, 0, 0, []⟩] ∧ okM (sta0 t) [o, opS k_string 0] = true := by
  have := run_split t [o] (by simpa using h)
  refine ⟨this.1.trans ?_, this.2⟩
  show stepT t o :: stepT (nextT t o) (opS k_string 0) :: [] = _
  rw [step_string]

set_option maxHeartbeats 16000000 in
set_option maxRecDepth 100000 in
theorem FnScriptSplit_walk (A : Option Addr) (n c0 : Nat) (l : List UInt8) (w : World) (a c : Addr) (hV : Env w.heap.size w a c) (hS : Sl w A n l) :
    Calls Tryd.prog 8 #[.slice A n c0] w fun e w' => e = .returned (.bool true) ∧ Below w.heap.size w w' := by
  go_enter Tryd.func8, Tryd.ntmps8
  go_wp2_with fail
  by_cases hn : n ≤ 1048576
  · refine (large_no A n c0 w hn).mono ?_
    rintro e w1 ⟨rfl, rfl⟩
    have HV := Lib.hid hV
    have hdr := Lib.hid (DrawRunBufferX A n c0 l w hS hn)
    clear hV hS
    go_wp2_with fail
    refine hdr.out.mono ?_
    rintro e w1 ⟨t, B, m, d, os, rfl, ht, hm, hB, HD, hf1⟩
    clear hdr
    go_wp2_with fail
    go_loopw [5, 23] (fun v i wr => ∃ (k j : Nat) (ps : List OpV), k ≤ m ∧ i = .int .i64 (k : Int) ∧ j ≤ k ∧ wr.ownsRow w1.heap.size 59 5 v j (ps.flatMap OpV.cells) ∧ Hid (j = ps.length ∧ ∀ o ∈ ps, o ∈ os ∧ o.kind ∈ skinds) ∧ Fr [] w1 wr) (fun _ i _ => m - (intOf i).toNat)
    case atStart => exact ⟨0, 0, [], Nat.zero_le _, rfl, Nat.le_refl _, own_empty w1 59 5, ⟨rfl, by simp⟩, (Fr.refl [] w1).alloc _⟩
    case round =>
      obtain ⟨k, j, ps, hk, rfl, hj, ho, HP, hf⟩ := hrel
      obtain ⟨A', c', rfl⟩ := own_form ho
      have hfw : Fr [] w wr := hf1.trans hf
      by_cases hlt : k < m
      · obtain ⟨o, hox⟩ : ∃ o, os[k]? = some o := ⟨_, List.getElem?_eq_getElem (by have := HD.out.1; omega)⟩
        obtain ⟨gg, rfl, cg⟩ := (hB.fr_old hf (by simp)).get (by omega)
        have g5 := fun j h => recs_get OpV.cells 5 (fun _ => rfl) os k j o hox h
        have x0 := cg _ _ ((g5 0 (by omega)).trans rfl)
        have x1 := cg _ _ ((g5 1 (by omega)).trans rfl)
        have x2 := cg _ _ ((g5 2 (by omega)).trans rfl)
        have x3 := cg _ _ ((g5 3 (by omega)).trans rfl)
        have x4 := cg _ _ ((g5 4 (by omega)).trans rfl)
        simp only [Nat.add_zero] at x0
        have HOX := Lib.hid (List.mem_of_getElem? hox)
        have himp := Lib.hid fun ob x hx => implOps_one o (wr.alloc ob) x hx
        have hsz := hf.size
        have HO := Lib.hid ho
        clear hox cg g5 ho
        by_cases hb : o.kind ∈ skinds
        · obtain ⟨kind, text, size, nn, char⟩ := o
          simp only at hb x0 x1 x2 x3 x4 himp HOX
          have HB := Lib.hid hb
          simp only [skinds, List.mem_cons, List.not_mem_nil, or_false] at hb
          rcases hb with rfl | rfl | rfl | rfl | rfl | rfl | rfl | rfl | rfl | rfl
          all_goals
            go_wp2_with fail
            refine (himp.out _ (wr.heap.size + 1) (by simp)).mono ?_
            rintro e w3 ⟨A3, c3, rfl, hR3, hf3⟩
            have hf03 : Fr [] wr w3 := ((Fr.refl [] wr).alloc _).trans hf3
            have ho3 := hf03.own HO.out (by simp)
            have hfw3 : Fr [] w1 w3 := hf.trans hf03
            have hsz3 := hfw3.size
            obtain ⟨v', w', hrun, ho', hg', hb'⟩ := run_app (P := Tryd.prog) w3 w1.heap.size 24 24 24 59 _ 5 56 Tryd.underlying24 infoOi rfl (by decide) _ _ _ ho3 _ 1 _
              (hR3.src Tryd.underlying24 c3 (by omega) (by simp [Value.oneCell'])) (by omega) (by omega) (by omega)
            have HO3 := Lib.hid ho3
            clear hR3 ho3 hb'
            go_wp2_with (at_builtin; refine wpList_append_run rfl _ _ _ _ rfl rfl rfl hrun ?_)
            go_roundw
            case rel => exact ⟨k + 1, j + 1, ps ++ [⟨_, text, size, nn, char⟩], by omega, by go_num, by omega, by rw [recs_snoc]; exact ho', ⟨by simp [HP.out.1], fun x hx => by rcases List.mem_append.1 hx with h | h; exact HP.out.2 x h; (simp only [List.mem_singleton] at h; rw [h]; exact ⟨HOX.out, HB.out⟩)⟩, hfw3.grown hg' (fun y hy => .inr ((HO3.out.lt y hy).1))⟩
            case measure => simp [intOf]; omega
        · simp only [skinds, List.mem_cons, List.not_mem_nil, or_false, not_or] at hb
          obtain ⟨q0, q1, q2, q3, q4, q5, q6, q7, q8, q9⟩ := hb
          have b0 : (o.kind == [114, 101, 97, 100]) = false := by simpa using q0
          have b1 : (o.kind == [110, 101, 120, 116]) = false := by simpa using q1
          have b2 : (o.kind == [114, 101, 97, 100, 98, 121, 116, 101]) = false := by simpa using q2
          have b3 : (o.kind == [114, 101, 97, 100, 98, 121, 116, 101, 115]) = false := by simpa using q3
          have b4 : (o.kind == [114, 101, 97, 100, 115, 116, 114, 105, 110, 103]) = false := by simpa using q4
          have b5 : (o.kind == [114, 101, 97, 100, 114, 117, 110, 101]) = false := by simpa using q5
          have b6 : (o.kind == [119, 114, 105, 116, 101]) = false := by simpa using q6
          have b7 : (o.kind == [119, 114, 105, 116, 101, 115, 116, 114, 105, 110, 103]) = false := by simpa using q7
          have b8 : (o.kind == [119, 114, 105, 116, 101, 98, 121, 116, 101]) = false := by simpa using q8
          have b9 : (o.kind == [114, 101, 115, 101, 116]) = false := by simpa using q9
          clear q0 q1 q2 q3 q4 q5 q6 q7 q8 q9
          go_wp2_with fail
          go_roundw
          case rel => exact ⟨k + 1, j, ps, by omega, by go_num, by omega, ((Fr.refl [] wr).alloc _).own HO.out (by simp), HP, hf.alloc _⟩
          case measure => simp [intOf]; omega
      · obtain rfl : k = m := by omega
        have hdr : ∀ o ∈ ps, o.Ok ∧ o.n ≤ 1048576 ∧ o.text.length ≤ 20 := fun o ho => (HD.out.2 o (HP.out.2 o ho).1).ok
        have hts := tsum_drawn ps (fun o ho => (hdr o ho).2.2)
        have hjl := HP.out.1
        have hR := own_rs ho
        have hsz := hfw.size
        -- the two appends
        obtain ⟨v2, w2, hrun2, ho2, hg2, hb2⟩ : ∃ v2 w2, (Builtin.append_ #[24, 24] 24 #[.slice (some ⟨wr.heap.size, 0, none⟩) 0 0, .slice A' j c']).run Tryd.prog (wr.alloc (.cells #[] 59)) = .ok v2 w2 ∧ w2.ownsRow wr.heap.size 59 5 v2 j (ps.flatMap OpV.cells) ∧ Fr [wr.heap.size] (wr.alloc (.cells #[] 59)) w2 ∧ True := by
          by_cases h0 : 0 < j
          · obtain ⟨v2, w2, h1, h2, h3, h4⟩ := run_app (P := Tryd.prog) (wr.alloc (.cells #[] 59)) wr.heap.size 24 24 24 59 _ 5 56 Tryd.underlying24 infoOi rfl (by decide) _ _ _ (own_empty wr 59 5) (.slice A' j c') j (ps.flatMap OpV.cells)
              ((hR.fr_old ((Fr.refl [] wr).alloc _) (by simp)).src Tryd.underlying24 c' h0 (recs_one ps)) (by omega) (by omega) (by simp)
            refine ⟨v2, w2, h1, ?_, ?_, trivial⟩
            · simpa using h2
            · have := Fr.of_grown h3
              simpa [Value.ownBlock] using this
          · obtain rfl : j = 0 := by omega
            obtain rfl : ps = [] := List.eq_nil_of_length_eq_zero hjl.symm
            obtain ⟨v2, w2, h1, h2, h3, h4⟩ := run_app (P := Tryd.prog) (wr.alloc (.cells #[] 59)) wr.heap.size 24 24 24 59 _ 5 56 Tryd.underlying24 infoOi rfl (by decide) _ _ _ (own_empty wr 59 5) (.slice A' 0 c') 0 []
              (src_of_rdv Tryd.underlying24 (fun i hi => absurd hi (by simp)) rfl (by decide) (by simp)) (by omega) (by omega) (by simp)
            refine ⟨v2, w2, h1, ?_, ?_, trivial⟩
            · simpa using h2
            · have := Fr.of_grown h3
              simpa [Value.ownBlock] using this
        obtain ⟨A2, c2, rfl⟩ := own_form ho2
        have hfr2 : Fr [] wr w2 := ((Fr.refl [] wr).alloc _).trans_of hg2 (by simp)
        have hsz2 := hfr2.size
        obtain ⟨v3, w3, hrun3, ho3, hg3, hb3⟩ := run_app (P := Tryd.prog) (w2.alloc (.cells #[.string ⟨#[115, 116, 114, 105, 110, 103]⟩, .string ⟨#[]⟩, .int .u16 0, .int .i64 0, .int .i32 0] 59)) wr.heap.size 24 24 24 59 _ 5 56 Tryd.underlying24 infoOi rfl (by decide) _ _ _ (ho2.alloc _) _ 1 _
          (src_blk w2 #[.string ⟨#[115, 116, 114, 105, 110, 103]⟩, .string ⟨#[]⟩, .int .u16 0, .int .i64 0, .int .i32 0] 59 59 24 Tryd.underlying24 5 rfl (by simp [Value.oneCell']) 1) (by omega) (by omega) (by simp; omega)
        obtain ⟨A3, c3, rfl⟩ := own_form ho3
        have hfr3 : Fr [] wr w3 := (hfr2.alloc _).grown hg3 (fun y hy => .inr ((ho2.lt y hy).1))
        have ho3' : w3.ownsRow wr.heap.size 59 5 (.slice A3 (j + 1) c3) (j + 1) ((ps ++ [opS k_string 0]).flatMap OpV.cells) := by rw [recs_snoc]; exact ho3
        have hkk : ∀ o ∈ ps ++ [opS k_string 0], o.Ok ∧ o.n ≤ 1048576 ∧ o.kind ∈ kinds := by
          intro o ho
          rcases List.mem_append.1 ho with h | h
          · exact ⟨(hdr o h).1, (hdr o h).2.1, skinds_k _ (HP.out.2 o h).2⟩
          · simp only [List.mem_singleton] at h
            rw [h]
            exact ⟨opS_string_ok, by show (0 : Int) ≤ _; omega, by show k_string ∈ kinds; decide⟩
        have hts2 : tsum (ps ++ [opS k_string 0]) = tsum ps + 4 := by simp [tsum, opS]
        have hV3 := HV.out.fr (hfw.trans hfr3) (by simp)
        have hsz3 := (hfw.trans hfr3).size
        have hrb := Lib.hid (impl_RunBuffer t A3 (j + 1) c3 (ps ++ [opS k_string 0]) w3 a c ⟨hV3.tabs, hV3.eof, hV3.unr, hV3.ne, hV3.ba, hV3.bc, by have := hV3.low; omega⟩ (own_rs ho3') (by simp [hjl]) (by rw [hts2]; omega) hkk)
        have hsp := run_split t ps (fun o ho => (HP.out.2 o ho).2)
        have HSP := Lib.hid hsp
        have HDR := Lib.hid hdr
        have HJL := Lib.hid hjl
        have HTS := Lib.hid hts
        have HRP := Lib.hid hR
        clear hdr hts hjl hR ho ho2 ho3 ho3' hkk hts2 hV3 hsp hg2 hg3 hb3 hb2
        go_wp2_with (at_builtin; first | refine wpList_append_run rfl _ _ _ _ rfl rfl rfl hrun2 ?_ | refine wpList_append_run rfl _ _ _ _ rfl rfl rfl hrun3 ?_)
        refine hrb.out.mono ?_
        rintro e w4 ⟨B4, m4, d4, sts, rfl, hR4, hm4, _, H4, hf4⟩
        have hst : sts = stepsT t (ps ++ [opS k_string 0]) := (H4.out.2 HSP.out.2).trans HSP.out.1
        have hm5 : m4 = j + 1 := by rw [hm4, hst, stepsT_length, List.length_append, ← HJL.out]; rfl
        subst hm5
        rw [hst] at hR4
        have hRP := (HRP.out.fr_old hfr3 (by simp)).fr_old hf4 (by simp)
        have hfw4 := (hfw.trans hfr3).trans hf4
        clear hst hm4 H4 HSP hrb
        go_wp2_with fail
        go_loopw [9, 63] (fun tx i wr => ∃ (q : Nat) (x : List UInt8), q ≤ j ∧ i = .int .i64 (q : Int) ∧ tx = .string ⟨x.toArray⟩ ∧ Hid (x = afterT t (ps.take q)) ∧ Fr [] w4 wr) (fun _ i _ => j - (intOf i).toNat)
        case atStart => exact ⟨0, t, Nat.zero_le _, rfl, rfl, rfl, Fr.refl _ _⟩
        case round =>
          obtain ⟨q, x, hq, rfl, rfl, HX, hfq⟩ := hrel
          by_cases hlt2 : q < j
          · obtain ⟨o, hox⟩ : ∃ o, ps[q]? = some o := ⟨_, List.getElem?_eq_getElem (by have := HJL.out; omega)⟩
            obtain ⟨gp, rfl, cp⟩ := (hRP.fr_old hfq (by simp)).get (by omega)
            have g5 := fun j h => recs_get OpV.cells 5 (fun _ => rfl) ps q j o hox h
            have x0 := cp _ _ ((g5 0 (by omega)).trans rfl)
            have x1 := cp _ _ ((g5 1 (by omega)).trans rfl)
            have x2 := cp _ _ ((g5 2 (by omega)).trans rfl)
            have x3 := cp _ _ ((g5 3 (by omega)).trans rfl)
            have x4 := cp _ _ ((g5 4 (by omega)).trans rfl)
            simp only [Nat.add_zero] at x0
            have hom := List.mem_of_getElem? hox
            have hsk := (HP.out.2 o hom).2
            obtain ⟨dk1, dk2, dk3⟩ := HDR.out o hom
            obtain ⟨hpr, hpk⟩ := run_pair x o hsk
            have hsg := stepsT_get (ps ++ [opS k_string 0]) t q o (by rw [List.getElem?_append_left (by have := HJL.out; omega)]; exact hox)
            rw [List.take_append_of_le_length (by have := HJL.out; omega), ← HX.out] at hsg
            have hnx : nextT x o = afterT t (ps.take (q + 1)) := by rw [take_next ps q o hox, afterT_snoc, ← HX.out]
            have hxl : x.length ≤ 32 + 24 * 13 := by
              have h1 := afterT_le (ps.take q) (fun o ho => (HP.out.2 o (List.mem_of_mem_take ho)).2) t
              have h2 := tsum_drawn (ps.take q) (fun o ho => (HDR.out o (List.mem_of_mem_take ho)).2.2)
              rw [← HX.out] at h1
              have h3 : (ps.take q).length ≤ 13 := by rw [List.length_take]; omega
              omega
            have hfwq := hfw4.trans hfq
            have hc2 := Lib.hid fun ob => run_script x [o, opS k_string 0] _ w.heap.size (wr.alloc ob) a c (by have := hfwq.size; simp; omega) (HV.out.fr (hfwq.alloc ob) (by simp)) (by simp [tsum, opS]; omega) (by
              intro y hy
              simp only [List.mem_cons, List.not_mem_nil, or_false] at hy
              rcases hy with rfl | rfl
              · exact ⟨dk1, dk2, skinds_k _ hsk⟩
              · exact ⟨opS_string_ok, by show (0 : Int) ≤ _; omega, by show k_string ∈ kinds; decide⟩) hpk hpr
            simp only [List.flatMap_cons, List.flatMap_nil, OpV.cells, StV.cells, opS, List.cons_append, List.nil_append, List.length_cons, List.length_nil, Nat.zero_add, Nat.reduceAdd, World.size_alloc] at hc2
            obtain ⟨gl, rfl, cl⟩ := (hR4.fr_old hfq (by simp)).get (by omega)
            have g4 := fun j h => recs_get StV.cells 4 (fun _ => rfl) _ q j _ hsg h
            have HL0 := Lib.hid (cl _ _ ((g4 0 (by omega)).trans rfl))
            have HL1 := Lib.hid (cl _ _ ((g4 1 (by omega)).trans rfl))
            have HL2 := Lib.hid (cl _ _ ((g4 2 (by omega)).trans rfl))
            have HL3 := Lib.hid (cl _ _ ((g4 3 (by omega)).trans rfl))
            have HNX := Lib.hid hnx
            have HCL := Lib.hid cl
            clear cp g5 hom hsk dk1 dk2 dk3 hpr hpk hsg hnx hox g4 cl
            generalize stepT x o = st at *
            generalize nextT x o = nx at *
            go_wp2_with fail
            refine (hc2.out _).mono ?_
            rintro e w5 ⟨B5, d5, rfl, hR5, hf5⟩
            obtain ⟨g5', rfl, c5⟩ := hR5.get (by omega)
            have a0 := c5 0 _ rfl
            have a1 := c5 1 _ rfl
            have a2 := c5 2 _ rfl
            have a3 := c5 3 _ rfl
            have a4 := c5 4 _ rfl
            have hfq5 : Fr [] wr w5 := ((Fr.refl [] wr).alloc _).trans hf5
            have keep : ∀ i u, wr.cell? ⟨gl, i, none⟩ = some u → w5.cell? ⟨gl, i, none⟩ = some u := fun i u hu => by rw [hfq5.cell (block_lt_of_cell hu) (by simp)]; exact hu
            have l0 := keep _ _ HL0.out
            have l1 := keep _ _ HL1.out
            have l2 := keep _ _ HL2.out
            have l3 := keep _ _ HL3.out
            simp only [Nat.add_zero] at l0
            clear keep hR5 c5 hc2
            go_wp2_with fail
            go_quiet (fail)
            go_wp2_with fail
            go_roundw
            case rel => exact ⟨q + 1, nx, by omega, by go_num, rfl, HNX.out, (hfq.trans hfq5).drewN _⟩
            case measure => simp [intOf]; omega
          · obtain rfl : q = j := by omega
            obtain ⟨gl, rfl, cl⟩ := (hR4.fr_old hfq (by simp)).get (by omega)
            have hsg := stepsT_get (ps ++ [opS k_string 0]) t q (opS k_string 0) (by rw [List.getElem?_append_right (by have := HJL.out; omega)]; have := HJL.out; simp [this])
            rw [List.take_append_of_le_length (by have := HJL.out; omega), ← HX.out, step_string] at hsg
            have l0 := cl _ _ ((recs_get StV.cells 4 (fun _ => rfl) _ q 0 _ hsg (by omega)).trans rfl)
            simp only [Nat.add_zero] at l0
            clear cl hsg
            go_wp2_with fail
            go_ret
            exact ⟨rfl, (hfw4.trans hfq).below (Nat.le_refl _) (by simp)⟩
  · refine (large_yes A n c0 w (by omega)).mono ?_
    rintro e w1 ⟨rfl, rfl⟩
    go_wp2_with fail
    go_ret
    exact ⟨rfl, Below.refl _ _⟩

end Go.Proofs.YtgjaeggpaomoaaaDoor
