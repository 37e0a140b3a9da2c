/- Laws on reads of drawn inputs. -/
import Derived.Test.YtbogmdgooifhnaaDoorLawJ
import Derived.Test.YtbogmdgooifhnaaDoorLawC
import Derived.Test.YtbogmdgooifhnaaDoorLawD
import Derived.Test.YtbogmdgooifhnaaDoorJoined
import Derived.Test.YtbogmdgooifhnaaDoorDraw3
namespace Go.Proofs.YtbogmdgooifhnaaDoor
open Go.RowKit
set_option linter.unusedVariables false
attribute [local go_sem ↓] Go.wp_at_zero Go.wp_at_succ

theorem text_readc (s : List UInt8) (zs : List Nat) : ∀ k, k ≤ zs.length → text (readc s zs) k ++ s.drop (tot zs k) = s
  | 0, _ => by simp [text, tot_zero]
  | k + 1, h => by
    have ih := text_readc s zs k (by omega)
    have hz : zs[k]? = some zs[k] := by simp
    rw [text, readc_eq s zs k _ hz, tot_succ zs k _ hz, ← List.drop_drop, List.append_assoc, List.take_append_drop, ih]
theorem text_readc_le (s : List UInt8) (zs : List Nat) (k : Nat) (h : k ≤ zs.length) : (text (readc s zs) k).length ≤ s.length := by
  have := congrArg List.length (text_readc s zs k h)
  rw [List.length_append] at this
  omega

set_option maxHeartbeats 1600000 in
theorem FnReadCuts_walk (A : Option Addr) (n c : Nat) (l : List UInt8) (w : World) (a : Addr) (hE : Eof w a) (hS : Sl w A n l) :
    Calls Tryd.prog 9 #[.slice A n c] w fun e w' => e = .returned (.bool true) ∧ Below w.heap.size w w' := by
  go_enter Tryd.func9, Tryd.ntmps9
  go_wp2_with fail
  by_cases hn : n ≤ 1048576
  · refine (large_no A n c w hn).mono ?_
    rintro e w1 ⟨rfl, rfl⟩
    go_wp2_with fail
    refine (DrawReadChunks A n c l w hS hn).mono ?_
    rintro e w1 ⟨s, B, m, d, zs, rfl, hs, hm, hB, hz, hf1⟩
    have HM := Lib.hid (show m = zs.length by have := hB.1; simpa using this)
    go_wp2_with fail
    refine (impl_ReadChunks s B m d zs w1 a (hE.fr hf1 (by simp)) hB (fun z h => by have := hz z h; omega) (by omega)).mono ?_
    rintro e w2 ⟨C, d2, s2, rfl, hC, H2, hf2⟩
    have hf12 := hf1.trans hf2
    have hB2 := hB.fr_old hf2 (by simp)
    go_wp2_with fail
    go_loopw [24] (fun i wr => ∃ k, k ≤ m ∧ i = .int .i64 (k : Int) ∧ Fr [] w2 wr) (fun i _ => m - (intOf i).toNat)
    case atStart => exact ⟨0, Nat.zero_le _, rfl, Fr.refl _ _⟩
    case round =>
      obtain ⟨k, hk, rfl, hf⟩ := hrel
      by_cases hlt : k < m
      · have hp := parts_get (readc s zs) m k hlt
        obtain ⟨z, hzk⟩ : ∃ z, zs[k]? = some z := ⟨zs[k]'(by have := HM.out; omega), by simp⟩
        rw [readc_eq s zs k z hzk] at hp
        have hlz : ((s.drop (tot zs k)).take z).length ≤ z := by simp; omega
        have hez : ((s.drop (tot zs k)).isEmpty && decide (0 < z)) = true → (s.drop (tot zs k)).take z = [] := by
          intro h
          simp only [Bool.and_eq_true, List.isEmpty_iff] at h
          rw [h.1]
          simp
        have hz4 := hz z (List.mem_of_getElem? hzk)
        generalize (s.drop (tot zs k)).take z = t at *
        generalize ((s.drop (tot zs k)).isEmpty && decide (0 < z)) = eo at *
        obtain ⟨ga, rfl, ca⟩ := (hC.fr_old hf (by simp)).get (by omega)
        obtain ⟨a0, a1, a2⟩ := pcells_get (parts (readc s zs) m) k _ _ hp
        have x0 := ca _ _ a0
        have x1 := ca _ _ a1
        have x2 := ca _ _ a2
        obtain ⟨ad, u, rfl, hu, hc⟩ := (hB2.fr_old (hf.alloc (.cells #[.string ⟨t.toArray⟩, .bool eo, .bool false] 35)) (by simp)).at_ hlt
        rw [List.getElem?_map, hzk] at hu
        simp only [Option.map_some, Option.some.injEq] at hu
        subst hu
        have d1 : decide (z < t.length) = false := by simp; omega
        clear ca a0 a1 a2 hp hzk
        cases eo with
        | false =>
          clear hez
          go_wp2_with fail
          go_quiet (fail)
          go_wp2
          go_roundw
          case rel => exact ⟨k + 1, by omega, by go_num, (hf.alloc _).drewN _⟩
          case measure => simp [intOf]; omega
        | true =>
          obtain rfl := hez rfl
          clear hez
          have hw : IntKind.i64.wrap (z : Int) = z := IntWalk.i64_in _ (by omega)
          have dn : decide ((z : Int) < 0) = false := by simp
          go_wp2_with fail
          go_quiet (fail)
          go_wp2
          go_roundw
          case rel => exact ⟨k + 1, by omega, by go_num, (hf.alloc _).drewN _⟩
          case measure => simp [intOf]; omega
      · have hTl := text_readc_le s zs m (by have := HM.out; omega)
        have hTe := text_readc s zs m (by have := HM.out; omega)
        rw [← H2.out] at hTe
        have hl2 : s2.length ≤ 4096 := by rw [H2.out]; simp; omega
        go_wp2_with fail
        refine (laws_joined C m d2 (readc s zs) _ (hC.fr_old hf (by simp)) (by omega) (by omega)).mono ?_
        rintro e w3 ⟨T, rfl, H3, hf3⟩
        rw [← H3.out] at hTl hTe
        have HTE := Lib.hid hTe
        clear hTe
        go_wp2_with fail
        go_ret
        exact ⟨ret_true (by simp [HTE.out]), ((hf12.trans hf).trans hf3).below (Nat.le_refl _) (by simp)⟩
  · refine (large_yes A n c w (by omega)).mono ?_
    rintro e w1 ⟨rfl, rfl⟩
    go_wp2_with fail
    go_ret
    exact ⟨rfl, Below.refl _ _⟩

set_option maxHeartbeats 1600000 in
theorem FnReadRoads_walk (A : Option Addr) (n c : Nat) (l : List UInt8) (w : World) (a : Addr) (hE : Eof w a) (hS : Sl w A n l) :
    Calls Tryd.prog 13 #[.slice A n c] w fun e w' => e = .returned (.bool true) ∧ Below w.heap.size w w' := by
  go_enter Tryd.func13, Tryd.ntmps13
  go_wp2_with fail
  by_cases hn : n ≤ 1048576
  · refine (large_no A n c w hn).mono ?_
    rintro e w1 ⟨rfl, rfl⟩
    go_wp2_with fail
    refine (DrawReadChunks A n c l w hS hn).mono ?_
    rintro e w1 ⟨s, B, m, d, zs, rfl, hs, hm, hB, hz, hf1⟩
    have HM := Lib.hid (show m = zs.length by have := hB.1; simpa using this)
    have hz' : ∀ z ∈ zs, z ≤ 65535 := fun z h => by have := hz z h; omega
    go_wp2_with fail
    refine (impl_ReadChunks s B m d zs w1 a (hE.fr hf1 (by simp)) hB hz' (by omega)).mono ?_
    rintro e w2 ⟨C, d2, s2, rfl, hC, H2, hf2⟩
    go_wp2_with fail
    refine (impl_NextChunks s B m d zs w2 (hB.fr_old hf2 (by simp)) hz' (by omega)).mono ?_
    rintro e w3 ⟨D, d3, s3, rfl, hD, H3, hf3⟩
    obtain rfl : s2 = s3 := by rw [H2.out, H3.out]
    have hf13 := (hf1.trans hf2).trans hf3
    have hC3 := hC.fr_old hf3 (by simp)
    go_wp2_with fail
    go_loopw [42] (fun i wr => ∃ k, k ≤ m ∧ i = .int .i64 (k : Int) ∧ Fr [] w3 wr) (fun i _ => m - (intOf i).toNat)
    case atStart => exact ⟨0, Nat.zero_le _, rfl, Fr.refl _ _⟩
    case round =>
      obtain ⟨k, hk, rfl, hf⟩ := hrel
      by_cases hlt : k < m
      · have hp := parts_get (readc s zs) m k hlt
        obtain ⟨ga, rfl, ca⟩ := (hC3.fr_old hf (by simp)).get (by omega)
        obtain ⟨a0, a1, a2⟩ := pcells_get (parts (readc s zs) m) k (chunk s zs k) _ hp
        have x0 := ca _ _ a0
        have x1 := ca _ _ a1
        have x2 := ca _ _ a2
        generalize ((s.drop (tot zs k)).isEmpty && decide (0 < zs.getD k 0)) = eo at *
        obtain ⟨ad, u, rfl, hu, hc⟩ := (hD.fr_old (hf.alloc (.cells #[.string ⟨(chunk s zs k).toArray⟩, .bool eo, .bool false] 35)) (by simp)).at_ hlt
        have hu' : ((chunks s zs m).map sv)[k]? = some (.string ⟨(chunk s zs k).toArray⟩) := by simp [chunks, hlt, sv]
        rw [hu'] at hu
        simp only [Option.some.injEq] at hu
        subst hu
        generalize chunk s zs k = t at *
        clear ca a0 a1 a2 hp hu'
        go_wp2_with fail
        go_quiet (fail)
        go_wp2
        go_roundw
        case rel => exact ⟨k + 1, by omega, by go_num, (hf.alloc _).drewN _⟩
        case measure => simp [intOf]; omega
      · have hTl := text_readc_le s zs m (by have := HM.out; omega)
        have hTe := text_readc s zs m (by have := HM.out; omega)
        rw [← H2.out] at hTe
        have hl2 : s2.length ≤ 4096 := by rw [H2.out]; simp; omega
        go_wp2_with fail
        refine (laws_joined C m d2 (readc s zs) _ (hC3.fr_old hf (by simp)) (by omega) (by omega)).mono ?_
        rintro e w4 ⟨T, rfl, H4, hf4⟩
        rw [← H4.out] at hTl hTe
        have HTE := Lib.hid hTe
        clear hTe
        go_wp2_with fail
        go_ret
        exact ⟨ret_true (by simp [HTE.out]), ((hf13.trans hf).trans hf4).below (Nat.le_refl _) (by simp)⟩
  · refine (large_yes A n c w (by omega)).mono ?_
    rintro e w1 ⟨rfl, rfl⟩
    go_wp2_with fail
    go_ret
    exact ⟨rfl, Below.refl _ _⟩

theorem sum_le (B : Nat) : ∀ zs : List Nat, (∀ z ∈ zs, z ≤ B) → zs.sum ≤ zs.length * B
  | [], _ => by simp
  | z :: r, h => by
    have h1 := h z (by simp)
    have h2 := sum_le B r (fun y hy => h y (by simp [hy]))
    simp only [List.sum_cons, List.length_cons, Nat.add_mul, Nat.one_mul]
    omega
theorem tot_le (zs : List Nat) (B : Nat) (h : ∀ z ∈ zs, z ≤ B) (k : Nat) (hk : zs.length ≤ 6) : tot zs k ≤ 6 * B := by
  have h1 := sum_le B (zs.take k) (fun z hz => h z (List.mem_of_mem_take hz))
  have h2 : (zs.take k).length ≤ 6 := by simp; omega
  have h3 := Nat.mul_le_mul_right B h2
  unfold tot
  omega
theorem slv_one (w : World) (u : Value) (e : TypeId) : Slv (w.alloc (.cells #[u] e)) (some ⟨w.heap.size, 0, none⟩) 1 [u] := by
  refine ⟨rfl, fun j hj => ⟨_, rfl, ?_⟩⟩
  simp at hj
  subst hj
  rw [add_at, cell_of_row _ _ _ _ _ _ (heap_alloc_new w _)]
  rfl

set_option maxHeartbeats 1600000 in
theorem FnReadMore_walk (A : Option Addr) (n c : Nat) (l : List UInt8) (w : World) (a : Addr) (hE : Eof w a) (hS : Sl w A n l) :
    Calls Tryd.prog 10 #[.slice A n c] w fun e w' => e = .returned (.bool true) ∧ Below w.heap.size w w' := by
  go_enter Tryd.func10, Tryd.ntmps10
  go_wp2_with fail
  by_cases hn : n ≤ 1048576
  · refine (large_no A n c w hn).mono ?_
    rintro e w1 ⟨rfl, rfl⟩
    go_wp2_with fail
    refine (DrawReadChunks A n c l w hS hn).mono ?_
    rintro e w1 ⟨s, B, m, d, zs, rfl, hs, hm, hB, hz, hf1⟩
    have HM := Lib.hid (show m = zs.length by have := hB.1; simpa using this)
    have hz' : ∀ z ∈ zs, z ≤ 65535 := fun z h => by have := hz z h; omega
    have hE1 := hE.fr hf1 (by simp)
    have htot := fun k => tot_le zs 4335 hz k (by have := HM.out; omega)
    have HTOT := Lib.hid htot
    clear htot
    go_wp2_with fail
    go_loop [5, 21] (fun t i => ∃ k, k ≤ m ∧ i = .int .i64 (k : Int) ∧ t = .int .i64 (tot zs k : Nat)) (fun _ i => m - (intOf i).toNat)
    case atStart => exact ⟨0, Nat.zero_le _, rfl, by rw [tot_zero]; rfl⟩
    case round =>
      obtain ⟨k, hk, rfl, rfl⟩ := hrel
      by_cases hlt : k < m
      · obtain ⟨z, hzk⟩ : ∃ z, zs[k]? = some z := ⟨zs[k]'(by have := HM.out; omega), by simp⟩
        obtain ⟨ad, u, rfl, hu, hc⟩ := hB.at_ hlt
        rw [List.getElem?_map, hzk] at hu
        simp only [Option.map_some, Option.some.injEq] at hu
        subst hu
        have hz4 := hz z (List.mem_of_getElem? hzk)
        have ht := HTOT.out k
        have hts := tot_succ zs k z hzk
        have HTS := Lib.hid hts
        clear hts hzk
        generalize tot zs k = t at *
        go_wp2_with fail
        go_round
        case rel => exact ⟨k + 1, by omega, by go_num, by rw [HTS.out]; go_num⟩
        case measure => simp [intOf]; omega
      · obtain rfl : k = m := by omega
        have ht := HTOT.out k
        have hTl := text_readc_le s zs k (by have := HM.out; omega)
        have hTe := text_readc s zs k (by have := HM.out; omega)
        have HTE := Lib.hid hTe
        clear hTe
        go_wp2_with fail
        refine (impl_ReadChunks s B k d zs w1 a hE1 hB hz' (by omega)).mono ?_
        rintro e w2 ⟨C, d2, s2, rfl, hC, H2, hf2⟩
        have hl2 : s2.length ≤ 4096 := by rw [H2.out]; simp; omega
        have HR : Hid (∀ s3 : List UInt8, s3 = s.drop (tot [tot zs k] 1) → s3 = s2) := Lib.hid (fun s3 h => by rw [h, H2.out]; simp [tot])
        have HT1 := Lib.hid (show text (readc s [tot zs k]) 1 = s.take (tot zs k) by simp [text, readc, chunk, tot])
        have HT2 := Lib.hid (show text (readc s zs) k = s.take (tot zs k) by
          have h1 := HTE.out
          have h2 : s.take (tot zs k) ++ s.drop (tot zs k) = s := List.take_append_drop _ _
          exact List.append_cancel_right (h1.trans h2.symm))
        have HSV := Lib.hid (slv_one w2 (.int .u16 (tot zs k : Nat)) 37)
        have hTl1 : (text (readc s [tot zs k]) 1).length ≤ 4096 := by rw [HT1.out]; simp; omega
        go_wp2_with fail
        refine (impl_ReadChunks s _ 1 1 [tot zs k] _ a ((hE1.fr hf2 (by simp)).fr ((Fr.refl [] w2).alloc _) (by simp)) HSV.out (by simp; omega) (by omega)).mono ?_
        rintro e w3 ⟨D, d3, s3, rfl, hD, H3, hf3⟩
        obtain rfl := HR.out s3 H3.out
        have hf23 := ((Fr.refl [] w2).alloc (.cells #[.int .u16 (tot zs k : Nat)] 37)).trans hf3
        go_wp2_with fail
        refine (laws_joined C k d2 (readc s zs) _ (hC.fr_old hf23 (by simp)) (by omega) (by omega)).mono ?_
        rintro e w4 ⟨T, rfl, H4, hf4⟩
        go_wp2_with fail
        refine (laws_joined D 1 d3 (readc s [tot zs k]) _ (hD.fr_old hf4 (by simp)) (by omega) (by omega)).mono ?_
        rintro e w5 ⟨T2, rfl, H5, hf5⟩
        obtain rfl : T = T2 := by rw [H4.out, H5.out, HT1.out, HT2.out]
        go_wp2_with fail
        refine (laws_joined C k d2 (readc s zs) _ ((hC.fr_old hf23 (by simp)).fr_old (hf4.trans hf5) (by simp)) (by omega) (by omega)).mono ?_
        rintro e w6 ⟨T2, rfl, H6, hf6⟩
        obtain rfl : T = T2 := by rw [H4.out, H6.out]
        rw [← H4.out] at hTl
        have HTF := Lib.hid (show T ++ s3 = s by rw [H4.out, H2.out, HTE.out])
        go_wp2_with fail
        go_ret
        exact ⟨ret_true (by simp [HTF.out]), (((((hf1.trans hf2).trans hf23).trans hf4).trans hf5).trans hf6).below (Nat.le_refl _) (by simp)⟩
  · refine (large_yes A n c w (by omega)).mono ?_
    rintro e w1 ⟨rfl, rfl⟩
    go_wp2_with fail
    go_ret
    exact ⟨rfl, Below.refl _ _⟩

end Go.Proofs.YtbogmdgooifhnaaDoor
