/- The calls of a builder return the same on an empty buffer. -/
import Derived.Test.YtgjaeggpaomoaaaDoorBldRun
import Derived.Test.YtgjaeggpaomoaaaDoorScripts
import Derived.BigQuiet
namespace Go.Proofs.YtgjaeggpaomoaaaDoor
open Go.RowKit
set_option linter.unusedVariables false
attribute [local go_sem ↓] Go.wp_at_zero Go.wp_at_succ

theorem Rs.fr_ne {S : List Nat} {w w' : World} {A : Option Addr} {n size : Nat} {vs : List Value} (h : Rs w A n size vs) (hf : Fr S w w') (hn : ∀ g i u, w.cell? ⟨g, i, none⟩ = some u → g ∉ S) : Rs w' A n size vs := by
  refine ⟨h.1, fun h0 => ?_⟩
  obtain ⟨g, rfl, hc⟩ := h.2 h0
  refine ⟨g, rfl, fun j hj => ?_⟩
  have h1 := hc j hj
  rw [hf.cell (block_lt_of_cell h1) (hn g j _ h1)]
  exact h1
theorem bkinds_t (k : List UInt8) (h : k ∈ bkinds) : k ∈ tkinds ∧ k ∈ kinds := by
  revert h
  unfold bkinds tkinds kinds
  simp only [List.mem_cons, List.not_mem_nil, or_false]
  intro h
  rcases h with e | e | e | e | e | e | e | e <;> simp [e]
theorem Drawn.ok {o : OpV} (h : Drawn o.kind o.text o.size o.n o.char) : o.Ok ∧ o.n ≤ 1048576 ∧ o.text.length ≤ 20 := by
  obtain ⟨_, h1, h2, h3, h4, h5, h6⟩ := h
  exact ⟨⟨h2, by omega, by omega, h5, h6⟩, by omega, h1⟩
theorem tsum_drawn (os : List OpV) (h : ∀ o ∈ os, o.text.length ≤ 20) : tsum os ≤ 24 * os.length := by
  induction os with
  | nil => exact Nat.le_refl _
  | cons o r ih =>
    have h1 := ih (fun x hx => h x (by simp [hx]))
    have h2 := h o (by simp)
    have e : tsum (o :: r) = o.text.length + 4 + tsum r := by simp [tsum]
    rw [e, List.length_cons]
    omega
/-- One drawn call, as a call of the program. -/
theorem implOps_one (o : OpV) (W : World) (x : Nat) (hx : W.heap.size = x) : Calls Tryd.prog 13 #[.slice (some ⟨x, 0, none⟩) 1 1] (W.alloc (.cells #[.string ⟨o.kind.toArray⟩, .string ⟨o.text.toArray⟩, .int .u16 (o.size : Int), .int .i64 o.n, .int .i32 o.char] 29)) fun e w' => ∃ A' c', e = .returned (.slice A' 1 c') ∧ Rs w' A' 1 5 [.string ⟨o.kind.toArray⟩, .string ⟨o.text.toArray⟩, .int .u16 (o.size : Int), .int .i64 o.n, .int .i32 o.char] ∧ Fr [] W w' := by
  subst hx
  refine (laws_implOps _ 1 1 [o] (W.alloc (.cells #[.string ⟨o.kind.toArray⟩, .string ⟨o.text.toArray⟩, .int .u16 (o.size : Int), .int .i64 o.n, .int .i32 o.char] 29)) (Rs.rg (rs_fresh W o.cells 29 1 5 rfl)) rfl (by omega)).mono ?_
  rintro e w' ⟨A', c', rfl, ho, hf⟩
  exact ⟨A', c', rfl, own_rs ho, ((Fr.refl [] W).alloc _).trans hf⟩

set_option maxHeartbeats 8000000 in
set_option maxRecDepth 100000 in
theorem FnScriptBuilder_walk (A : Option Addr) (n c0 : Nat) (l : List UInt8) (w : World) (a c : Addr) (hV : Env w.heap.size w a c) (hS : Sl w A n l) :
    Calls Tryd.prog 3 #[.slice A n c0] w fun e w' => e = .returned (.bool true) ∧ Below w.heap.size w w' := by
  go_enter Tryd.func3, Tryd.ntmps3
  go_wp2_with fail
  by_cases hn : n ≤ 1048576
  · refine (large_no A n c0 w hn).mono ?_
    rintro e w1 ⟨rfl, rfl⟩
    have hdr := Lib.hid (DrawRunBuilder A n c0 l (w.alloc (.cells #[] 59)) (hS.fr ((Fr.refl [] w).alloc _) (by simp)) hn)
    have HV := Lib.hid hV
    clear hV hS
    go_wp2_with fail
    refine hdr.out.mono ?_
    rintro e w1 ⟨B, m, d, os, rfl, hm, hB, HD, hf1⟩
    have hfw1 : Fr [] w w1 := ((Fr.refl [] w).alloc _).trans hf1
    have hk1 := (Blk.new w 59 #[]).fr hf1 (by simp)
    have hlt1 := hk1.lt
    have hno : ∀ g i u, w1.cell? ⟨g, i, none⟩ = some u → g ∉ [w.heap.size] := by
      intro g i u hu hm
      simp only [List.mem_singleton] at hm
      rw [hm, hk1.cell] at hu
      simp at hu
    have HNO := Lib.hid hno
    have HK1 := Lib.hid hk1
    clear hno hk1 hdr
    go_wp2_with fail
    go_loopw [3, 15] (fun v i wr => ∃ (k j : Nat) (ps : List OpV), k ≤ m ∧ i = .int .i64 (k : Int) ∧ j ≤ k ∧ wr.ownsRow w.heap.size 59 5 v j (ps.flatMap OpV.cells) ∧ Hid (j = ps.length ∧ ∀ o ∈ ps, o ∈ os ∧ o.kind ∈ bkinds) ∧ Hid (∀ y, v.ownBlock = some y → y = w.heap.size ∨ w1.heap.size ≤ y) ∧ Fr [w.heap.size] w1 wr) (fun _ i _ => m - (intOf i).toNat)
    case atStart =>
      refine ⟨0, 0, [], Nat.zero_le _, rfl, Nat.le_refl _, hf1.own (own_empty w 59 5) (by simp), ⟨rfl, by simp⟩, ?_, Fr.refl _ _⟩
      intro y hy
      simp [Value.ownBlock] at hy
      exact .inl hy.symm
    case round =>
      obtain ⟨k, j, ps, hk, rfl, hj, ho, HP, HY, hf⟩ := hrel
      obtain ⟨A', c', rfl⟩ := own_form ho
      have hB2 := hB.fr_ne hf HNO.out
      have hfw : Fr [] w wr := hfw1.trans_of hf (by simp)
      by_cases hlt : k < m
      · obtain ⟨o, hox⟩ : ∃ o, os[k]? = some o := ⟨_, List.getElem?_eq_getElem (by have := HD.out.1; omega)⟩
        obtain ⟨gg, rfl, cg⟩ := hB2.get (by omega)
        have g5 := fun j h => recs_get OpV.cells 5 (fun _ => rfl) os k j o hox h
        have x0 := cg _ _ ((g5 0 (by omega)).trans rfl)
        have x1 := cg _ _ ((g5 1 (by omega)).trans rfl)
        have x2 := cg _ _ ((g5 2 (by omega)).trans rfl)
        have x3 := cg _ _ ((g5 3 (by omega)).trans rfl)
        have x4 := cg _ _ ((g5 4 (by omega)).trans rfl)
        simp only [Nat.add_zero] at x0
        have hbu := Lib.hid fun W => spec_Builds o W
        unfold OpV.val at hbu
        have HOX := Lib.hid (List.mem_of_getElem? hox)
        clear hox cg g5 hB2
        go_wp2_with fail
        refine (hbu.out _).mono ?_
        rintro e w2 ⟨rfl, hf2⟩
        have hkb := (Blk.new wr 29 #[.string ⟨o.kind.toArray⟩, .string ⟨o.text.toArray⟩, .int .u16 (o.size : Int), .int .i64 o.n, .int .i32 o.char]).fr hf2 (by simp)
        have y0 : w2.cell? ⟨wr.heap.size, 0, none⟩ = some (.string ⟨o.kind.toArray⟩) := hkb.cell 0
        have y1 : w2.cell? ⟨wr.heap.size, 1, none⟩ = some (.string ⟨o.text.toArray⟩) := hkb.cell 1
        have y2 : w2.cell? ⟨wr.heap.size, 2, none⟩ = some (.int .u16 (o.size : Int)) := hkb.cell 2
        have y3 : w2.cell? ⟨wr.heap.size, 3, none⟩ = some (.int .i64 o.n) := hkb.cell 3
        have y4 : w2.cell? ⟨wr.heap.size, 4, none⟩ = some (.int .i32 o.char) := hkb.cell 4
        have hf02 : Fr [] wr w2 := ((Fr.refl [] wr).alloc _).trans hf2
        have ho2 := hf02.own ho (by simp)
        have hfw2 : Fr [w.heap.size] w1 w2 := hf.trans (hf02.more (by simp))
        have himp := Lib.hid (implOps_one o w2 w2.heap.size rfl)
        have HO2 := Lib.hid ho2
        clear hkb ho2 ho hbu
        by_cases hb : o.kind ∈ bkinds
        · rw [decide_eq_true hb]
          have HB := Lib.hid hb
          clear hb
          go_wp2_with fail
          refine himp.out.mono ?_
          rintro e w3 ⟨A3, c3, rfl, hR3, hf3⟩
          have ho3 := hf3.own HO2.out (by simp)
          have hfw3 : Fr [w.heap.size] w1 w3 := hfw2.trans (hf3.more (by simp))
          have hsz3 : w.heap.size ≤ w3.heap.size := by have := hfw3.size; omega
          obtain ⟨v', w', hrun, ho', hg', hb'⟩ := run_app (P := Tryd.prog) w3 w.heap.size 24 24 24 59 _ 5 56 Tryd.underlying24 infoOi rfl (by decide) _ _ _ ho3 _ 1 _
            (hR3.src Tryd.underlying24 c3 (by omega) (by simp [Value.oneCell'])) (by omega) (by omega) (by omega)
          have HO' := Lib.hid ho'
          have HG' := Lib.hid hg'
          have HB' := Lib.hid hb'
          clear ho' hg' hb' ho3 hR3
          go_wp2_with (at_builtin; refine wpList_append_run rfl _ _ _ _ rfl rfl rfl hrun ?_)
          go_roundw
          case rel =>
            refine ⟨k + 1, j + 1, ps ++ [o], by omega, by go_num, by omega, by rw [recs_snoc]; exact HO'.out, ⟨by simp [HP.out.1], fun x hx => by rcases List.mem_append.1 hx with h | h; exact HP.out.2 x h; (simp only [List.mem_singleton] at h; rw [h]; exact ⟨HOX.out, HB.out⟩)⟩, ?_, hfw3.grown HG'.out (fun y hy => by rcases HY.out y hy with h | h; exact .inl (by simp [h]); exact .inr h)⟩
            intro y hy
            rcases HB'.out with h | h
            · exact HY.out y (by rw [← h]; exact hy)
            · rw [h] at hy
              injection hy with hy
              have := hfw3.size
              exact .inr (by omega)
          case measure => simp [intOf]; omega
        · rw [decide_eq_false hb]
          clear hb
          go_wp2_with fail
          go_roundw
          case rel => exact ⟨k + 1, j, ps, by omega, by go_num, by omega, HO2.out, HP, HY, hfw2⟩
          case measure => simp [intOf]; omega
      · obtain rfl : k = m := by omega
        have hdr : ∀ o ∈ ps, o.Ok ∧ o.n ≤ 1048576 ∧ o.text.length ≤ 20 := fun o ho => (HD.out.2 o (HP.out.2 o ho).1).ok
        have hts := tsum_drawn ps (fun o ho => (hdr o ho).2.2)
        have hjl := HP.out.1
        have hR := own_rs ho
        have h1 := Lib.hid (impl_RunBuilder A' j c' ps wr hR.rg hjl (by omega) (fun o ho => ⟨(hdr o ho).1, fun _ => (hdr o ho).2.1⟩))
        have h2 := Lib.hid fun W (hF : Fr [] wr W) => impl_RunBuffer [] A' j c' ps W a c (by have hV2 := HV.out.fr (hfw.trans hF) (by simp); have := (hfw.trans hF).size; exact ⟨hV2.tabs, hV2.eof, hV2.unr, hV2.ne, hV2.ba, hV2.bc, by have := hV2.low; omega⟩) (hR.fr_old hF (by simp)) hjl (by simp; omega) (fun o ho => ⟨(hdr o ho).1, (hdr o ho).2.1, (bkinds_t _ (HP.out.2 o ho).2).2⟩)
        have hrm := runM_text ps (sta0 []) (fun o ho => (bkinds_t _ (HP.out.2 o ho).2).1)
        have hrb := runB_text ps [] (fun o ho => (HP.out.2 o ho).2)
        have HRM := Lib.hid hrm
        have HRB := Lib.hid hrb
        have hend := runT_end ps []
        rw [← hjl] at hend
        have HEND := Lib.hid hend
        clear hdr hts hjl hR ho hrm hrb hend hB2
        go_wp2_with fail
        refine h1.out.mono ?_
        rintro e w3 ⟨B1, m1, d1, sts1, rfl, hR1, hm1, hm1n, H1, hf3⟩
        have HMM := Lib.hid hm1
        clear hm1
        go_wp2_with fail
        refine (h2.out w3 hf3).mono ?_
        rintro e w4 ⟨B2, m2, d2, sts2, rfl, hR2, hm2, hm2n, H2, hf4⟩
        have hs1 : sts1 = runT [] ps := H1.out.trans HRB.out
        have hs2 : sts2 = runT [] ps := (H2.out.2 HRM.out.2).trans HRM.out.1
        have hR1' := hR1.fr_old hf4 (by simp)
        have hm1 := HMM.out
        clear HMM
        rw [hs1] at hR1' hm1
        rw [hs2] at hR2 hm2
        have HE := HEND.out
        generalize runT [] ps = rs at *
        clear hs1 hs2 H1 H2 HRM HRB HEND h1 h2 hR1
        obtain rfl : m2 = m1 := by omega
        have HM1 := Lib.hid hm1
        have HEE := Lib.hid HE
        have hfw4 := (hfw.trans hf3).trans hf4
        clear hm1 hm2 HE
        go_wp2_with fail
        go_loopw [38] (fun i wr => ∃ q : Nat, q ≤ m2 ∧ i = .int .i64 (q : Int) ∧ Fr [] w4 wr) (fun i _ => m2 - (intOf i).toNat)
        case atStart => exact ⟨0, Nat.zero_le _, rfl, Fr.refl _ _⟩
        case round =>
          obtain ⟨q, hq, rfl, hfr2⟩ := hrel
          by_cases hlt2 : q < m2
          · obtain ⟨st, hst⟩ : ∃ st, rs[q]? = some st := ⟨_, List.getElem?_eq_getElem (by have := HM1.out; omega)⟩
            obtain ⟨g1, rfl, ca⟩ := (hR1'.fr_old hfr2 (by simp)).get (by omega)
            obtain ⟨g2, rfl, cb⟩ := (hR2.fr_old hfr2 (by simp)).get (by omega)
            have g4 := fun j h => recs_get StV.cells 4 (fun _ => rfl) rs q j st hst h
            have a0 := ca _ _ ((g4 0 (by omega)).trans rfl)
            have a1 := ca _ _ ((g4 1 (by omega)).trans rfl)
            have a2 := ca _ _ ((g4 2 (by omega)).trans rfl)
            have a3 := ca _ _ ((g4 3 (by omega)).trans rfl)
            have b0 := cb _ _ ((g4 0 (by omega)).trans rfl)
            have b1 := cb _ _ ((g4 1 (by omega)).trans rfl)
            have b2 := cb _ _ ((g4 2 (by omega)).trans rfl)
            have b3 := cb _ _ ((g4 3 (by omega)).trans rfl)
            simp only [Nat.add_zero] at a0 b0
            clear ca cb g4 hst
            go_wp2_with fail
            go_quiet (fail)
            go_wp2_with fail
            go_roundw
            case rel => exact ⟨q + 1, by omega, by go_num, hfr2.drewN _⟩
            case measure => simp [intOf]; omega
          · have hfz := (hfw4.trans hfr2).below (Nat.le_refl _) (by simp)
            rcases HEE.out with ⟨_, h5 | ⟨z, st, h5, h6, h7⟩⟩
            · obtain rfl : m2 = j := by have := HM1.out; omega
              go_wp2_with fail
              go_ret
              exact ⟨rfl, hfz⟩
            · obtain rfl : m2 = z + 1 := by have := HM1.out; omega
              obtain ⟨g1, rfl, ca⟩ := (hR1'.fr_old hfr2 (by simp)).get (by omega)
              have a3 := ca _ _ ((recs_get StV.cells 4 (fun _ => rfl) rs z 3 st h6 (by omega)).trans rfl)
              rw [h7] at a3
              clear ca
              by_cases hzj : z + 1 = j
              · subst hzj
                go_wp2_with fail
                go_ret
                exact ⟨rfl, hfz⟩
              · have hb1 : ((((z : Nat) : Int) + 1) == (j : Int)) = false := by simp; omega
                have hb2 : ((((z + 1 : Nat) : Nat) : Int) == (j : Int)) = false := by simp; omega
                go_wp2_with fail
                go_ret
                exact ⟨rfl, hfz⟩
  · refine (large_yes A n c0 w (by omega)).mono ?_
    rintro e w1 ⟨rfl, rfl⟩
    go_wp2_with fail
    go_ret
    exact ⟨rfl, Below.refl _ _⟩

end Go.Proofs.YtgjaeggpaomoaaaDoor
