/- More laws on reads and lines of drawn inputs. -/
import Derived.Test.YtbogmdgooifhnaaDoorLawL
namespace Go.Proofs.YtbogmdgooifhnaaDoor
open Go.RowKit
set_option linter.unusedVariables false
attribute [local go_sem ↓] Go.wp_at_zero Go.wp_at_succ

theorem tot_ones (z k : Nat) (h : k ≤ z) : tot (List.replicate z 1) k = k := by
  simp [tot, List.take_replicate]
  omega
theorem single_readc (s : List UInt8) (z : Nat) : parts (single s) z = parts (readc s (List.replicate z 1)) z := by
  unfold parts
  apply List.map_congr_left
  intro k hk
  have hk' : k < z := by simpa using hk
  rw [readc_eq s (List.replicate z 1) k 1 (by simp [hk']), tot_ones z k (by omega), single]
  simp

set_option maxHeartbeats 1600000 in
theorem FnReadSingle_walk (A : Option Addr) (n c : Nat) (l : List UInt8) (w : World) (a : Addr) (hE : Eof w a) (hS : Sl w A n l) :
    Calls Tryd.prog 14 #[.slice A n c] w fun e w' => e = .returned (.bool true) ∧ Below w.heap.size w w' := by
  go_enter Tryd.func14, Tryd.ntmps14
  go_wp2_with fail
  by_cases hn : n ≤ 1048576
  · refine (large_no A n c w hn).mono ?_
    rintro e w1 ⟨rfl, rfl⟩
    go_wp2_with fail
    refine (DrawReadSingles A n c l w hS hn).mono ?_
    rintro e w1 ⟨s, m, rfl, hs, hm, hf1⟩
    have hE1 := hE.fr hf1 (by simp)
    go_wp2_with fail
    refine (impl_ReadSingles s m w1 a hE1 (by omega) (by omega)).mono ?_
    rintro e w2 ⟨C, d2, s2, rfl, hC, H2, hf2⟩
    have hf12 := hf1.trans hf2
    go_wp2_with fail
    go_loopw [7, 26] (fun v i wr => ∃ k, k ≤ m ∧ i = .int .u16 (k : Int) ∧ wr.ownsRow w2.heap.size 37 1 v k (List.replicate k (.int .u16 1)) ∧ Fr [] w2 wr) (fun _ i _ => m - (intOf i).toNat)
    case atStart => exact ⟨0, Nat.zero_le _, rfl, own_empty w2 37 1, (Fr.refl [] w2).alloc _⟩
    case round =>
      obtain ⟨k, hk, rfl, ho, hf⟩ := hrel
      obtain ⟨A', c', rfl⟩ := own_form ho
      by_cases hlt : k < m
      · have hsz := hf.size
        obtain ⟨v', w', hrun, ho', hg', hb'⟩ := run_app (P := Tryd.prog) (wr.alloc (.cells #[.int .u16 1] 37)) w2.heap.size 42 42 42 37 _ 1 2 Tryd.underlying42 info16 rfl (by decide) _ _ _ (ho.alloc _) _ 1 _
          (src_one wr (.int .u16 1) 37 37 42 Tryd.underlying42 rfl 1) (by omega) (by omega) (by simp; omega)
        go_wp2_with (at_builtin; refine wpList_append_run rfl _ _ _ _ rfl rfl rfl hrun ?_)
        go_roundw
        case rel =>
          refine ⟨k + 1, by omega, by go_num, ?_, hf.app ho hg'⟩
          rw [List.replicate_succ']
          exact ho'
        case measure => simp [intOf]; omega
      · obtain rfl : k = m := by omega
        have hSv : Slv wr A' k ((List.replicate k 1).map fun z : Nat => Value.int .u16 (z : Int)) := by
          have := own_slv ho
          simpa using this
        go_wp2_with fail
        refine (impl_ReadChunks s A' k c' (List.replicate k 1) wr a ((hE1.fr hf2 (by simp)).fr hf (by simp)) hSv (by simp) (by omega)).mono ?_
        rintro e w3 ⟨D, d3, s3, rfl, hD, H3, hf3⟩
        obtain rfl : s2 = s3 := by rw [H2.out, H3.out, tot_ones k k (Nat.le_refl _)]
        have hf13 := (hf12.trans hf).trans hf3
        have hC3 := (hC.fr_old hf (by simp)).fr_old hf3 (by simp)
        rw [single_readc] at hC3
        have HTl := Lib.hid (text_readc_le s (List.replicate k 1) k (by simp))
        have HTe := Lib.hid (text_readc s (List.replicate k 1) k (by simp))
        have H3' := Lib.hid (show s2 = s.drop (tot (List.replicate k 1) k) from H3.out)
        clear H3
        generalize List.replicate k 1 = zs at *
        go_wp2_with fail
        go_loopw [50] (fun i wr => ∃ j, j ≤ k ∧ i = .int .i64 (j : Int) ∧ ∃ q, wr = w3.drewN q) (fun i _ => k - (intOf i).toNat)
        case atStart => exact ⟨0, Nat.zero_le _, rfl, 0, rfl⟩
        case round =>
          obtain ⟨j, hj, rfl, q, rfl⟩ := hrel
          by_cases hlt2 : j < k
          · have hp := parts_get (readc s zs) k j hlt2
            obtain ⟨ga, rfl, ca⟩ := hC3.get (by omega)
            obtain ⟨a0, a1, a2⟩ := pcells_get (parts (readc s zs) k) j (readc s zs j).1 (readc s zs j).2 hp
            have x0 := ca _ _ a0
            have x1 := ca _ _ a1
            have x2 := ca _ _ a2
            obtain ⟨gb, rfl, cb⟩ := hD.get (by omega)
            have y0 := cb _ _ a0
            have y1 := cb _ _ a1
            have y2 := cb _ _ a2
            generalize (readc s zs j).1 = t at *
            generalize (readc s zs j).2 = eo at *
            clear ca cb a0 a1 a2 hp
            go_wp2_with fail
            go_quiet (fail)
            go_wp2
            go_roundw
            case rel => exact ⟨j + 1, by omega, by go_num, _, rfl⟩
            case measure => simp [intOf]; omega
          · have hTl := HTl.out
            have hTe := HTe.out
            rw [← H3'.out] at hTe
            have hl2 : s2.length ≤ 4096 := by rw [H3'.out]; simp; omega
            go_wp2_with fail
            refine (laws_joined C k d2 (readc s zs) _ (hC3.drewN _) (by omega) (by omega)).mono ?_
            rintro e w4 ⟨T, rfl, H4, hf4⟩
            rw [← H4.out] at hTl hTe
            have HTE := Lib.hid hTe
            clear hTe
            go_wp2_with fail
            go_ret
            exact ⟨ret_true (by simp [HTE.out]), ((hf13.drewN q).trans hf4).below (Nat.le_refl _) (by simp)⟩
  · refine (large_yes A n c w (by omega)).mono ?_
    rintro e w1 ⟨rfl, rfl⟩
    go_wp2_with fail
    go_ret
    exact ⟨rfl, Below.refl _ _⟩

set_option maxHeartbeats 3200000 in
set_option maxRecDepth 100000 in
theorem FnPeekNext_walk (A : Option Addr) (n c : Nat) (l : List UInt8) (w : World) (a : Addr) (hE : Eof w a) (hS : Sl w A n l) :
    Calls Tryd.prog 11 #[.slice A n c] w fun e w' => e = .returned (.bool true) ∧ Below w.heap.size w w' := by
  go_enter Tryd.func11, Tryd.ntmps11
  go_wp2_with fail
  by_cases hn : n ≤ 1048576
  · refine (large_no A n c w hn).mono ?_
    rintro e w1 ⟨rfl, rfl⟩
    go_wp2_with fail
    refine (DrawPeekChunks A n c l w hS hn).mono ?_
    rintro e w1 ⟨s, B, m, d, zs, rfl, hs, hm, hB, hz, hf1⟩
    have HM := Lib.hid (show m = zs.length by have := hB.1; simpa using this)
    have hE1 := hE.fr hf1 (by simp)
    go_wp2_with fail
    go_loopw [20] (fun i wr => ∃ k, k ≤ m ∧ i = .int .i64 (k : Int) ∧ Fr [] w1 wr) (fun i _ => m - (intOf i).toNat)
    case atStart => exact ⟨0, Nat.zero_le _, rfl, Fr.refl _ _⟩
    case round =>
      obtain ⟨k, hk, rfl, hf⟩ := hrel
      by_cases hlt : k < m
      · obtain ⟨z, hzk⟩ : ∃ z, zs[k]? = some z := ⟨zs[k]'(by have := HM.out; omega), by simp⟩
        obtain ⟨ad, u, rfl, hu, hc⟩ := (hB.fr_old hf (by simp)).at_ hlt
        rw [List.getElem?_map, hzk] at hu
        simp only [Option.map_some, Option.some.injEq] at hu
        subst hu
        have hz4 := hz z (List.mem_of_getElem? hzk)
        clear hzk
        have HSV := Lib.hid (show Slv (wr.alloc (.cells #[.int .u16 (z : Int), .int .u16 (z : Int)] 37)) (some ⟨wr.heap.size, 0, none⟩) 2 ([z, z].map fun z : Nat => Value.int .u16 (z : Int)) from slv_new wr _ _)
        go_wp2_with fail
        refine (impl_PeekChunks s _ 2 2 [z, z] _ a ((hE1.fr hf (by simp)).fr ((Fr.refl [] wr).alloc _) (by simp)) HSV.out (by simp; omega) (by omega)).mono ?_
        rintro e w2 ⟨C, d2, s2, rfl, hC, H2, hf2⟩
        obtain rfl := H2.out
        have hfr2 := ((Fr.refl [] wr).alloc (.cells #[.int .u16 (z : Int), .int .u16 (z : Int)] 37)).trans hf2
        have HSV1 := Lib.hid (show Slv (w2.alloc (.cells #[.int .u16 (z : Int)] 37)) (some ⟨w2.heap.size, 0, none⟩) 1 ([z].map fun z : Nat => Value.int .u16 (z : Int)) from slv_new w2 _ _)
        go_wp2_with fail
        refine (impl_NextChunks s2 _ 1 1 [z] _ HSV1.out (by simp; omega) (by omega)).mono ?_
        rintro e w3 ⟨D, d3, s3, rfl, hD, H3, hf3⟩
        have hfr3 := ((Fr.refl [] w2).alloc (.cells #[.int .u16 (z : Int)] 37)).trans hf3
        obtain ⟨ga, rfl, ca⟩ := (hC.fr_old hfr3 (by simp)).get (by omega)
        obtain ⟨a0, a1, a2⟩ := pcells_get (parts (peek s2 [z, z]) 2) 0 (s2.take z) (decide (s2.length < z)) (by simp [parts_get, peek])
        obtain ⟨b0, b1, b2⟩ := pcells_get (parts (peek s2 [z, z]) 2) 1 (s2.take z) (decide (s2.length < z)) (by simp [parts_get, peek])
        have x0 := ca _ _ a0
        have x1 := ca _ _ a1
        have x2 := ca _ _ a2
        have y0 := ca _ _ b0
        have y1 := ca _ _ b1
        have y2 := ca _ _ b2
        simp only [Nat.zero_mul, Nat.one_mul, Nat.zero_add, Nat.reduceAdd] at x0 x1 x2 y0 y1 y2
        obtain ⟨bd, u, rfl, hu, hcd⟩ := hD.at_ (k := 0) (by omega)
        have hu' : ((chunks s2 [z] 1).map sv)[0]? = some (.string ⟨(s2.take z).toArray⟩) := by simp [chunks, chunk, sv, tot]
        rw [hu'] at hu
        simp only [Option.some.injEq] at hu
        subst hu
        have hcd' : w3.cell? bd = some (.string ⟨(s2.take z).toArray⟩) := by simpa [Addr.add] using hcd
        have heo : decide ((s2.take z).length < z) = decide (s2.length < z) := by
          rw [List.length_take]
          congr 1
          simp
          omega
        have hw : IntKind.i64.wrap (z : Int) = z := IntWalk.i64_in _ (by omega)
        clear ca a0 a1 a2 b0 b1 b2 hu' H3
        generalize s2.take z = t at *
        cases heo' : decide (s2.length < z) with
        | false =>
          rw [heo'] at heo x1 y1
          clear heo'
          go_wp2_with fail
          go_quiet (fail)
          go_wp2
          go_roundw
          case rel => exact ⟨k + 1, by omega, by go_num, ((hf.trans hfr2).trans hfr3).drewN _⟩
          case measure => simp [intOf]; omega
        | true =>
          rw [heo'] at heo x1 y1
          clear heo'
          go_wp2_with fail
          go_quiet (fail)
          go_wp2
          go_roundw
          case rel => exact ⟨k + 1, by omega, by go_num, ((hf.trans hfr2).trans hfr3).drewN _⟩
          case measure => simp [intOf]; omega
      · go_wp2_with fail
        go_ret
        exact ⟨rfl, (hf1.trans hf).below (Nat.le_refl _) (by simp)⟩
  · refine (large_yes A n c w (by omega)).mono ?_
    rintro e w1 ⟨rfl, rfl⟩
    go_wp2_with fail
    go_ret
    exact ⟨rfl, Below.refl _ _⟩

end Go.Proofs.YtbogmdgooifhnaaDoor
