/- The law on the ends of lines. -/
import Derived.Test.YtbogmdgooifhnaaDoorLawL
namespace Go.Proofs.YtbogmdgooifhnaaDoor
open Go.RowKit
set_option linter.unusedVariables false
attribute [local go_sem ↓] Go.wp_at_zero Go.wp_at_succ

theorem line_hit {d : List UInt8} {x : UInt8} (h : d.idxOf x < d.length) : (line d x).length = d.idxOf x + 1 ∧ idxI (line d x) x = (d.idxOf x : Int) ∧ (line d x)[d.idxOf x]? = some x := by
  have hl : (line d x).length = d.idxOf x + 1 := by rw [line, List.length_take]; omega
  have hg : d[d.idxOf x]? = some x := by rw [List.getElem?_eq_getElem h, List.getElem_idxOf h]
  have hg2 : (line d x)[d.idxOf x]? = some x := by rw [line, List.getElem?_take_of_lt (by omega)]; exact hg
  refine ⟨hl, ?_, hg2⟩
  have hi : (line d x).idxOf x = d.idxOf x := by
    have h1 : d = line d x ++ rest d x := (List.take_append_drop _ _).symm
    have h2 : x ∈ line d x := List.mem_of_getElem? hg2
    conv => rhs; rw [h1]
    rw [List.idxOf_append, if_pos h2]
  rw [idxI_some (by omega), hi]
theorem line_miss {d : List UInt8} {x : UInt8} (h : ¬ d.idxOf x < d.length) : line d x = d ∧ idxI d x = -1 ∧ x ∉ d := by
  refine ⟨by rw [line, List.take_of_length_le (by omega)], idxI_none h, fun hm => h (List.idxOf_lt_length_of_mem hm)⟩

set_option maxHeartbeats 3200000 in
theorem FnLinesEnd_walk (A : Option Addr) (n c : Nat) (l : List UInt8) (w : World) (a : Addr) (hE : Eof w a) (hS : Sl w A n l) :
    Calls Tryd.prog 7 #[.slice A n c] w fun e w' => e = .returned (.bool true) ∧ Below w.heap.size w w' := by
  go_enter Tryd.func7, Tryd.ntmps7
  go_wp2_with fail
  by_cases hn : n ≤ 1048576
  · refine (large_no A n c w hn).mono ?_
    rintro e w1 ⟨rfl, rfl⟩
    go_wp2_with fail
    refine (DrawReadSlices A n c l w hS hn).mono ?_
    rintro e w1 ⟨s, B, m, d, cs, rfl, hs, hm, hB, hf1⟩
    have HM := Lib.hid hB.1
    have hE1 := hE.fr hf1 (by simp)
    go_wp2_with fail
    refine (impl_ReadSlices s B m d cs w1 a hE1 hB (by omega)).mono ?_
    rintro e w2 ⟨C, d2, s2, rfl, hC, H2, hf2⟩
    have hB2 := hB.fr_old hf2 (by simp)
    have hf12 := hf1.trans hf2
    go_wp2_with fail
    go_loopw [27] (fun i wr => ∃ k, k ≤ m ∧ i = .int .i64 (k : Int) ∧ Fr [] w2 wr) (fun i _ => m - (intOf i).toNat)
    case atStart => exact ⟨0, Nat.zero_le _, rfl, Fr.refl _ _⟩
    case round =>
      obtain ⟨k, hk, rfl, hf⟩ := hrel
      by_cases hlt : k < m
      · have hp := parts_get (readl s cs) m k hlt
        obtain ⟨x, hx⟩ : ∃ x, cs[k]? = some x := ⟨cs[k]'(by have := HM.out; omega), by simp⟩
        rw [readl_eq s cs k x hx] at hp
        have hdl := left_length s cs k
        generalize left s cs k = dd at *
        obtain ⟨ga, rfl, ca⟩ := (hC.fr_old hf (by simp)).get (by omega)
        obtain ⟨a0, a1, a2⟩ := pcells_get (parts (readl s cs) m) k _ _ hp
        have x0 := ca _ _ a0
        have x1 := ca _ _ a1
        have x2 := ca _ _ a2
        obtain ⟨ad, u, rfl, hu, hc⟩ := (hB2.fr_old (hf.alloc (.cells #[.string ⟨(line dd x).toArray⟩, .bool (misses dd x), .bool false] 35)) (by simp)).at_ hlt
        rw [hx] at hu
        obtain rfl : x = u := by simpa using hu
        clear ca a0 a1 a2 hp hx hu
        have hll : (line dd x).length ≤ 4096 := by rw [line, List.length_take]; omega
        have HI := Lib.hid (fun W => spec_Index (line dd x) x W (by omega))
        by_cases hi : dd.idxOf x < dd.length
        · obtain ⟨h1, h2, h3⟩ := line_hit hi
          have h4 : misses dd x = false := by simp [misses, hi]
          rw [h2] at HI
          rw [h4] at x1 hc
          generalize dd.idxOf x = i at *
          generalize line dd x = t at *
          have hit : i < t.length := by omega
          have hget : (⟨t.toArray⟩ : ByteArray)[i]'(by rw [str_size]; exact hit) = x := by
            have : t[i] = x := by simpa [hit] using h3
            exact this
          have hb : (((⟨t.toArray⟩ : ByteArray)[i]'(by rw [str_size]; exact hit)).toNat : Int) == (x.toNat : Int) := by rw [hget]; simp
          have hw : IntKind.i64.wrap ((t.length : Int) - 1) = i := by rw [IntWalk.i64_in _ (by omega)]; omega
          have hp0 : decide (0 < t.length) = true := by simp; omega
          have H1 := Lib.hid h1
          clear h1 h3 hget h4 h2
          go_wp2_with fail
          go_quiet (fail)
          go_wp2_with fail
          go_quiet ((go_at_call 25; exact (HI.out _).mono fun e w' ⟨h1, h2⟩ => ⟨h1, _, h2.symm⟩))
          have h1 := H1.out
          go_wp2_with fail
          go_roundw
          case rel => exact ⟨k + 1, by omega, by go_num, (hf.alloc _).drewN _⟩
          case measure => simp [intOf]; omega
        · obtain ⟨h1, h2, h3⟩ := line_miss hi
          have h4 : misses dd x = true := by simp [misses, hi]
          rw [h1] at HI x0 hc
          rw [h2] at HI
          rw [h4] at x1 hc
          clear h1 h2 h4 hi hll
          by_cases h0 : dd.length = 0
          · obtain rfl : dd = [] := List.eq_nil_of_length_eq_zero h0
            go_wp2_with fail
            go_quiet (fail)
            go_wp2_with fail
            go_quiet ((go_at_call 25; exact (HI.out _).mono fun e w' ⟨h1, h2⟩ => ⟨h1, _, h2.symm⟩))
            go_wp2_with fail
            go_roundw
            case rel => exact ⟨k + 1, by omega, by go_num, (hf.alloc _).drewN _⟩
            case measure => simp [intOf]; omega
          · obtain ⟨i, hil⟩ : ∃ i, dd.length = i + 1 := ⟨dd.length - 1, by omega⟩
            have hit : i < dd.length := by omega
            have hget : (⟨dd.toArray⟩ : ByteArray)[i]'(by rw [str_size]; exact hit) = dd[i] := rfl
            have hb : ((((⟨dd.toArray⟩ : ByteArray)[i]'(by rw [str_size]; exact hit)).toNat : Int) == (x.toNat : Int)) = false := by
              rw [hget]
              simp only [beq_eq_false_iff_ne, ne_eq]
              intro h
              exact h3 (by rw [← UInt8.toNat_inj.1 (show dd[i].toNat = x.toNat by omega)]; exact List.getElem_mem _)
            have hw : IntKind.i64.wrap ((dd.length : Int) - 1) = i := by rw [IntWalk.i64_in _ (by omega)]; omega
            have hp0 : decide (0 < dd.length) = true := by simp; omega
            clear hil hget h3 h0
            go_wp2_with fail
            go_quiet (fail)
            go_wp2_with fail
            go_quiet ((go_at_call 25; exact (HI.out _).mono fun e w' ⟨h1, h2⟩ => ⟨h1, _, h2.symm⟩))
            go_wp2_with fail
            go_roundw
            case rel => exact ⟨k + 1, by omega, by go_num, (hf.alloc _).drewN _⟩
            case measure => simp [intOf]; omega
      · have hTl := text_readl_le s cs m (by have := HM.out; omega)
        have hTe := text_readl s cs m (by have := HM.out; omega)
        rw [← H2.out] at hTe
        have hl2 : s2.length ≤ 4096 := by rw [H2.out]; have := left_length s cs m; omega
        go_wp2_with fail
        refine (laws_joined C m d2 (readl s cs) _ (hC.fr_old hf (by simp)) (by omega) (by omega)).mono ?_
        rintro e w4 ⟨T, rfl, H4, hf4⟩
        rw [← H4.out] at hTl hTe
        have HTE := Lib.hid hTe
        clear hTe
        go_wp2_with fail
        go_ret
        exact ⟨ret_true (by simp [HTE.out]), ((hf12.trans hf).trans hf4).below (Nat.le_refl _) (by simp)⟩
  · refine (large_yes A n c w (by omega)).mono ?_
    rintro e w1 ⟨rfl, rfl⟩
    go_wp2_with fail
    go_ret
    exact ⟨rfl, Below.refl _ _⟩

end Go.Proofs.YtbogmdgooifhnaaDoor
