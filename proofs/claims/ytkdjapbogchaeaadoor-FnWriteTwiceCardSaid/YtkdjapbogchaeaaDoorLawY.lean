/- Laws on what strings are written as. -/
import Derived.Test.YtkdjapbogchaeaaDoorLawW
import Derived.Test.YtkdjapbogchaeaaDoorDraw4
namespace Go.Proofs.YtkdjapbogchaeaaDoor
open Go.RowKit
set_option linter.unusedVariables false
attribute [local go_sem ↓] Go.wp_at_zero Go.wp_at_succ

theorem own_one (w : World) (W : Nat) (e : TypeId) (u : Value) (hW : W ≤ w.heap.size) : (w.alloc (.cells #[u] e)).ownsRow W e 1 (.slice (some ⟨w.heap.size, 0, none⟩) 1 1) 1 [u] :=
  ⟨by simp, .inr ⟨w.heap.size, 1, #[u], rfl, hW, heap_alloc_new w _, Nat.le_refl _, by unfold maxLen; omega, by simp, by simp⟩⟩
theorem Slv.take {w : World} {A : Option Addr} {n : Nat} {vs : List Value} (h : Slv w A n vs) (k : Nat) (hk : k ≤ n) : Slv w A k (vs.take k) := by
  have hl := h.1
  refine ⟨by simp; omega, fun j hj => ?_⟩
  have hj' : j < vs.length := by simp at hj; omega
  obtain ⟨ad, e, hc⟩ := h.2 j hj'
  exact ⟨ad, e, by rw [hc]; simp⟩
theorem sv_one (ls : List (List UInt8)) : ∀ u ∈ ls.map sv, u.oneCell' = true := by
  intro u hu
  obtain ⟨_, _, rfl⟩ := List.mem_map.1 hu
  rfl

set_option maxHeartbeats 1600000 in
set_option maxRecDepth 100000 in
theorem FnWriteTwice_walk (A : Option Addr) (n c : Nat) (l : List UInt8) (w : World) (hS : Sl w A n l) :
    Calls Tryd.prog 10 #[.slice A n c] w fun e w' => e = .returned (.bool true) ∧ Below w.heap.size w w' := by
  go_enter Tryd.func10, Tryd.ntmps10
  go_wp2_with fail
  by_cases hn : n ≤ 1048576
  · refine (large_no A n c w hn).mono ?_
    rintro e w1 ⟨rfl, rfl⟩
    go_wp2_with fail
    refine (DrawWriteStrings A n c l w hS hn).mono ?_
    rintro e w1 ⟨s, B, m, d, ls, rfl, hs, hm, hB, hz, hmd, hf1⟩
    have hsum : (ls.map List.length).sum ≤ 20480 := by
      have h1 := sum_le ls hz
      have h2 : m = ls.length := by have := hB.1; simpa using this
      omega
    have hfl : ls.flatten.length ≤ 20480 := by rw [List.length_flatten]; exact hsum
    have h2 := Lib.hid (impl_WriteStrings s B m d ls w1 hB (by omega))
    go_wp2_with fail
    refine h2.out.mono ?_
    rintro e w2 ⟨A2, c2, t2, rfl, hS2, H2, hf2⟩
    have hB2 := hB.fr_old hf2 (by simp)
    have h3 := Lib.hid (spec_Joined B m d ls w2 hB2 (by omega) (by omega))
    go_wp2_with fail
    refine h3.out.mono ?_
    rintro e w3 ⟨j, rfl, HJ, rfl⟩
    have hjl : j.length ≤ 20480 := by rw [HJ.out]; exact hfl
    have h4 := Lib.hid fun hW => impl_WriteStrings s (some ⟨w2.heap.size, 0, none⟩) 1 1 [j] (w2.alloc (.cells #[.string ⟨j.toArray⟩] 9)) hW (by simp; omega)
    go_wp2_with fail
    refine (h4.out (slv_fresh w2 #[.string ⟨j.toArray⟩] 9)).mono ?_
    rintro e w4 ⟨A4, c4, t4, rfl, hS4, H4, hf4⟩
    have hf24 := ((Fr.refl [] w2).alloc (.cells #[.string ⟨j.toArray⟩] 9)).trans hf4
    have hB4 := hB2.fr_old hf24 (by simp)
    have hB4a := hB4.fr_old ((Fr.refl [] w4).alloc (.cells #[.string ⟨s.toArray⟩] 9)) (by simp)
    obtain ⟨v', w5, hrun, ho', hg', hb'⟩ := run_app (P := Tryd.prog) (w4.alloc (.cells #[.string ⟨s.toArray⟩] 9)) w4.heap.size 30 30 30 9 _ 1 16 Tryd.underlying30 infoStr rfl (by decide) _ _ _ (own_one w4 w4.heap.size 9 (.string ⟨s.toArray⟩) (Nat.le_refl _)) _ m _
      (hB4a.src (P := Tryd.prog) Tryd.underlying30 d (sv_one ls)) (by omega) (by omega) (by simp)
    obtain ⟨A5, c5, rfl⟩ := own_form ho'
    have hv5 := own_slv ho'
    have hf45 := ((Fr.refl [] w4).alloc (.cells #[.string ⟨s.toArray⟩] 9)).grown hg' (by simp [Value.ownBlock])
    have h5 := Lib.hid (impl_WriteStrings [] A5 (1 + m) c5 (s :: ls) w5 hv5 (by simp; omega))
    clear hv5 hB4a ho'
    go_wp2_with (at_builtin; refine wpList_append_run rfl _ _ _ _ rfl rfl rfl hrun ?_)
    refine h5.out.mono ?_
    rintro e w6 ⟨A6, c6, t6, rfl, hS6, H6, hf6⟩
    obtain rfl : t2 = t4 := by rw [H2.out, H4.out, HJ.out]; simp
    obtain rfl : t2 = t6 := by rw [H2.out, H6.out]; simp
    have hB6 := hB4.fr_old (hf45.trans hf6) (by simp)
    have h6 := Lib.hid (spec_Joined B m d ls w6 hB6 (by omega) (by omega))
    clear H4 H6 hS2 hS4 hS6
    go_wp2_with fail
    refine h6.out.mono ?_
    rintro e w7 ⟨j2, rfl, HJ2, rfl⟩
    have hj2 : j2.length ≤ 20480 := by rw [HJ2.out]; exact hfl
    go_wp2_with fail
    go_ret
    exact ⟨ret_true (by rw [H2.out, HJ2.out]; simp), ((((hf1.trans hf2).trans hf24).trans hf45).trans hf6).below (Nat.le_refl _) (by simp)⟩
  · refine (large_yes A n c w (by omega)).mono ?_
    rintro e w1 ⟨rfl, rfl⟩
    go_wp2_with fail
    go_ret
    exact ⟨rfl, Below.refl _ _⟩

theorem size9 : (Tryd.prog.info? 9).map (fun i => i.size) = some 1 := by kernel_rfl

set_option maxHeartbeats 1600000 in
set_option maxRecDepth 100000 in
theorem FnWriteCounts_walk (A : Option Addr) (n c : Nat) (l : List UInt8) (w : World) (hS : Sl w A n l) :
    Calls Tryd.prog 9 #[.slice A n c] w fun e w' => e = .returned (.bool true) ∧ Below w.heap.size w w' := by
  go_enter Tryd.func9, Tryd.ntmps9
  go_wp2_with fail
  by_cases hn : n ≤ 1048576
  · refine (large_no A n c w hn).mono ?_
    rintro e w1 ⟨rfl, rfl⟩
    go_wp2_with fail
    refine (DrawWriteStrings A n c l w hS hn).mono ?_
    rintro e w1 ⟨s, B, m, d, ls, rfl, hs, hm, hB, hz, hmd, hf1⟩
    have hml : m = ls.length := by have := hB.1; simpa using this
    have HM := Lib.hid hml
    have hsum : (ls.map List.length).sum ≤ 20480 := by have h1 := sum_le ls hz; omega
    clear hml
    have h2 := Lib.hid (impl_WriteStrings s B m d ls w1 hB (by omega))
    go_wp2_with fail
    refine h2.out.mono ?_
    rintro e w2 ⟨D, d2, t, rfl, hD, HT, hf2⟩
    have hB2 := hB.fr_old hf2 (by simp)
    have hf12 := hf1.trans hf2
    go_wp2_with fail
    go_loopw [7, 29] (fun v i wr => ∃ (k N : Nat), k ≤ m ∧ i = .int .i64 (k : Int) ∧ v = .int .i64 (N : Int) ∧ Hid (N = (s ++ (ls.take k).flatten).length) ∧ Fr [] w2 wr) (fun _ i _ => m - (intOf i).toNat)
    case atStart => exact ⟨0, s.length, Nat.zero_le _, rfl, rfl, by show _ = _; simp, Fr.refl _ _⟩
    case round =>
      obtain ⟨k, N, hk, rfl, rfl, HN, hf⟩ := hrel
      have hNle : N ≤ 30000 := by
        have h1 := flat_le ls k
        rw [HN.out, List.length_append]
        omega
      by_cases hlt : k < m
      · obtain ⟨x, hx⟩ : ∃ x, ls[k]? = some x := ⟨ls[k]'(by have := HM.out; omega), List.getElem?_eq_getElem _⟩
        have hxl : x.length ≤ 4096 := hz x (List.mem_of_getElem? hx)
        obtain ⟨ad, u, rfl, hu, hc⟩ := (hD.fr_old hf (by simp)).at_ hlt
        obtain rfl : u = .int .i64 (x.length : Int) := by
          rw [List.getElem?_map, List.getElem?_map, hx] at hu
          simpa [iv] using hu.symm
        have hBk := (hB2.fr_old hf (by simp)).take (k + 1) (by omega)
        rw [← List.map_take] at hBk
        have hs2 : ((ls.take (k + 1)).map List.length).sum ≤ 20480 := by
          have h1 := flat_le ls (k + 1)
          rw [List.length_flatten] at h1
          omega
        have h3 := Lib.hid (impl_WriteStrings s B (k + 1) d (ls.take (k + 1)) wr hBk (by omega))
        have HX := Lib.hid hx
        have hsl := fun W => run_cut_h (P := Tryd.prog) 30 9 Tryd.underlying30 size9 B m d W (k + 1) (by omega)
        clear hx hu hBk
        simp only [Int.natCast_add, Int.natCast_one] at hsl
        go_wp2_with fail
        refine h3.out.mono ?_
        rintro e w3 ⟨E, e3, t3, rfl, hE, H3, hf3⟩
        have ht3 : t3.length = N + x.length := by rw [H3.out, flat_next ls k x HX.out, ← List.append_assoc, List.length_append, ← HN.out]
        have htk : t.take (N + x.length) = t3 := by
          rw [HT.out, H3.out]
          have e1 : s ++ ls.flatten = (s ++ (ls.take (k + 1)).flatten) ++ (ls.drop (k + 1)).flatten := by
            rw [List.append_assoc, ← List.flatten_append, List.take_append_drop]
          rw [e1]
          refine List.take_left' ?_
          rw [← H3.out]
          exact ht3
        have htl : N + x.length ≤ t.length := by
          have := congrArg List.length htk
          rw [List.length_take, ht3] at this
          omega
        have htl2 : t.length ≤ 30000 := by
          rw [HT.out, List.length_append, List.length_flatten]
          omega
        have e3 : ((N : Int) + (x.length : Int)).toNat = N + x.length := by omega
        have e4 : (0 : Int) ≤ (N : Int) + (x.length : Int) := by omega
        have e5 : ((t3.length : Int) != (N : Int) + (x.length : Int)) = false := by simp; omega
        have HT3 := Lib.hid ht3
        clear ht3 hE H3
        go_wp2_with fail
        go_roundw
        case rel =>
          refine ⟨k + 1, N + x.length, by omega, by go_num, by go_num, ?_, hf.trans hf3⟩
          show _ = _
          rw [flat_next ls k x HX.out, ← List.append_assoc, List.length_append, ← HN.out]
        case measure => simp [intOf]; omega
      · obtain rfl : k = m := by omega
        have hte : (t.length : Int) = (N : Int) := by
          have h1 := HN.out
          rw [List.take_of_length_le (by have := HM.out; omega)] at h1
          rw [HT.out, ← h1]
        have hteb : ((t.length : Int) == (N : Int)) = true := by simp; omega
        clear hte
        go_wp2_with fail
        go_ret
        exact ⟨ret_true (by simp), (hf12.trans hf).below (Nat.le_refl _) (by simp)⟩
  · refine (large_yes A n c w (by omega)).mono ?_
    rintro e w1 ⟨rfl, rfl⟩
    go_wp2_with fail
    go_ret
    exact ⟨rfl, Below.refl _ _⟩

end Go.Proofs.YtkdjapbogchaeaaDoor
