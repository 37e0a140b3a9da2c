/- More laws on reads and lines of drawn inputs. -/
import Derived.Test.YtbogmdgooifhnaaDoorLawK
import Derived.Test.YtbogmdgooifhnaaDoorLawI
namespace Go.Proofs.YtbogmdgooifhnaaDoor
open Go.RowKit
set_option linter.unusedVariables false
attribute [local go_sem ↓] Go.wp_at_zero Go.wp_at_succ

theorem DrawReadSingles (A : Option Addr) (n c : Nat) (l : List UInt8) (w : World) (hS : Sl w A n l) (hn : n ≤ 1048576) :
    Calls Tryd.prog 32 #[.slice A n c] w fun e w' => ∃ (s : List UInt8) (z : Nat), e = .returned (.tuple #[.string ⟨s.toArray⟩, .int .u16 (z : Int)]) ∧ s.length ≤ 4096 ∧ z ≤ 11 ∧ Fr [] w w' := by
  go_enter Tryd.func32, Tryd.ntmps32
  go_wp2_with fail
  refine (rd_text _ w.heap.size A n c l 0 8 (Dr.made hS hn) (by omega) (by omega)).mono ?_
  rintro e w1 ⟨s, rfl, hs, hD1, hf1⟩
  go_wp2_with fail
  refine (rd_pick w1 w.heap.size A n c l _ 12 hD1 (by omega) (by omega) (by omega)).mono ?_
  rintro e w2 ⟨z, rfl, hz, hD2, hf2⟩
  go_wp2_with fail
  go_ret2
  exact ⟨s, z, by simp, by omega, by omega, (((Fr.refl [] w).alloc _).trans_of hf1 (by simp)).trans_of hf2 (by simp)⟩

/-- The loop of DrawReadSlices. -/
def DelRel (w : World) (r : Nat) (A : Option Addr) (n c : Nat) (l : List UInt8) (q : Nat) (v i : Value) (wr : World) : Prop :=
  ∃ (k : Nat) (cs : List UInt8), k ≤ 5 ∧ i = .int .i64 (k : Int) ∧ cs.length + k ≤ 5 ∧ wr.ownsRow w.heap.size 5 1 v cs.length (cs.map bv) ∧ Dr wr r A n c l (q + (5 - k)) ∧ Fr [r] w wr

set_option maxHeartbeats 1600000 in
theorem DrawReadSlices (A : Option Addr) (n c : Nat) (l : List UInt8) (w : World) (hS : Sl w A n l) (hn : n ≤ 1048576) :
    Calls Tryd.prog 24 #[.slice A n c] w fun e w' => ∃ (s : List UInt8) (B : Option Addr) (k d : Nat) (cs : List UInt8), e = .returned (.tuple #[.string ⟨s.toArray⟩, .slice B k d]) ∧ s.length ≤ 4096 ∧ k ≤ 5 ∧ Sl w' B k cs ∧ Fr [] w w' := by
  have HA := Lib.hid (show 0 < n → ∀ ad, A = some ad → ad.block < w.heap.size from hS.old)
  go_enter Tryd.func24, Tryd.ntmps24
  go_wp2_with fail
  refine (rd_long _ w.heap.size A n c l 0 (Dr.made hS hn) (by omega)).mono ?_
  rintro e w1 ⟨s, rfl, hs, hD1, hf1⟩
  have hf01 : Fr [] w w1 := ((Fr.refl [] w).alloc _).trans_of hf1 (by simp)
  go_wp2_with fail
  refine (rd_pick _ w.heap.size A n c l _ 6 (hD1.alloc _) (by omega) (by omega) (by omega)).mono ?_
  rintro e w2 ⟨x, rfl, hx, hD2, hf2⟩
  have hlt := hD1.lt
  go_wp2_with fail
  go_loopw [6, 7] (fun v i wr => DelRel w1 w.heap.size A n c l 30 v i wr) (fun _ i _ => (intOf i).toNat)
  case atStart =>
    refine ⟨x, [], by omega, rfl, by simp; omega, ?_, hD2.mono (by omega), ((Fr.refl [w.heap.size] w1).alloc _).trans hf2⟩
    exact hf2.own (own_empty w1 5 1) (by simp [Value.ownBlock]; omega)
  case round =>
    obtain ⟨k, cs, hk, rfl, hz, ho, hD, hf⟩ := hrel
    obtain ⟨A', c', rfl⟩ := own_form ho
    by_cases h0 : 0 < k
    · go_wp2_with fail
      have hltr := hD.lt
      refine (rd_of _ w.heap.size A n c l _ (hD.alloc _) (by omega) _ 6 6 _ (slv_new _ _ _) (by simp; omega) (by decide) (by omega) (by omega)).mono ?_
      rintro e w3 ⟨t, rfl, ht, ht1, hD3, hf3⟩
      obtain ⟨y, t', rfl⟩ : ∃ y t', t = y :: t' := by
        cases t with
        | nil => simp at ht1
        | cons y t' => exact ⟨y, t', rfl⟩
      have hsz0 : 0 < (⟨(y :: t').toArray⟩ : ByteArray).size := by rw [str_size]; simp
      have hget : (⟨(y :: t').toArray⟩ : ByteArray)[0] = y := rfl
      have hne := own_ne_r hD ho (by decide)
      have ho2 := hf3.own (ho.alloc _) (fun y hy => by have := hne y hy; simpa using this)
      have hfr3 : Fr [w.heap.size] w1 w3 := (hf.alloc _).trans hf3
      have hsz : w1.heap.size ≤ w3.heap.size := hfr3.size
      obtain ⟨v', w', hrun, ho', hg', hb'⟩ := run_app (P := Tryd.prog) (w3.alloc (.cells #[.int .u8 (y.toNat : Int)] 5)) w1.heap.size 22 22 22 5 _ 1 1 Tryd.underlying22 infoB rfl (by decide) _ _ _ (ho2.alloc _) _ 1 _
        (src_one w3 (.int .u8 (y.toNat : Int)) 5 5 22 Tryd.underlying22 rfl 1) (by omega) (by omega) (by simp; omega)
      go_wp2_with (at_builtin; refine wpList_append_run rfl _ _ _ _ rfl rfl rfl hrun ?_)
      go_roundw
      case rel =>
        refine ⟨k - 1, cs ++ [y], by omega, by congr 1; omega, by simp; omega, ?_, (hD3.app (w := w1) ho2 (fun h0 ad e => Nat.lt_of_lt_of_le (HA.out h0 ad e) hf01.size) (by decide) hg').mono (by omega), hfr3.app ho2 hg'⟩
        rw [List.length_append, List.map_append]
        exact ho'
      case measure => simp [intOf]; omega
    · go_wp2_with fail
      go_ret2
      exact ⟨s, _, _, _, cs, rfl, by omega, by omega, own_sl ho, hf01.trans_of hf (by simp)⟩

theorem DrawReadStrings (A : Option Addr) (n c : Nat) (l : List UInt8) (w : World) (hS : Sl w A n l) (hn : n ≤ 1048576) :
    Calls Tryd.prog 19 #[.slice A n c] w fun e w' => ∃ (s : List UInt8) (B : Option Addr) (k d : Nat) (cs : List UInt8), e = .returned (.tuple #[.string ⟨s.toArray⟩, .slice B k d]) ∧ s.length ≤ 4096 ∧ k ≤ 5 ∧ Sl w' B k cs ∧ Fr [] w w' := by
  go_enter Tryd.func19, Tryd.ntmps19
  go_wp2_with fail
  refine (DrawReadSlices A n c l w hS hn).mono ?_
  rintro e w1 ⟨s, B, k, d, cs, rfl, hs, hk, hB, hf⟩
  go_wp2_with fail
  go_ret2
  exact ⟨s, B, k, d, cs, rfl, hs, hk, hB, hf⟩

theorem text_readl (s cs : List UInt8) : ∀ k, k ≤ cs.length → text (readl s cs) k ++ left s cs k = s
  | 0, _ => by simp [text, left]
  | k + 1, h => by
    have ih := text_readl s cs k (by omega)
    have hz : cs[k]? = some cs[k] := by simp
    rw [text, readl_eq s cs k _ hz, left_succ s cs k _ hz, line, rest, List.append_assoc, List.take_append_drop, ih]
theorem text_readl_le (s cs : List UInt8) (k : Nat) (h : k ≤ cs.length) : (text (readl s cs) k).length ≤ s.length := by
  have := congrArg List.length (text_readl s cs k h)
  rw [List.length_append] at this
  omega

set_option maxHeartbeats 1600000 in
theorem FnLinesRoads_walk (A : Option Addr) (n c : Nat) (l : List UInt8) (w : World) (a : Addr) (hE : Eof w a) (hS : Sl w A n l) :
    Calls Tryd.prog 12 #[.slice A n c] w fun e w' => e = .returned (.bool true) ∧ Below w.heap.size w w' := by
  go_enter Tryd.func12, Tryd.ntmps12
  go_wp2_with fail
  by_cases hn : n ≤ 1048576
  · refine (large_no A n c w hn).mono ?_
    rintro e w1 ⟨rfl, rfl⟩
    go_wp2_with fail
    refine (DrawReadSlices A n c l w hS hn).mono ?_
    rintro e w1 ⟨s, B, m, d, cs, rfl, hs, hm, hB, hf1⟩
    have HM := Lib.hid hB.1
    have hE1 := hE.fr hf1 (by simp)
    go_wp2_with fail
    refine (impl_ReadSlices s B m d cs w1 a hE1 hB (by omega)).mono ?_
    rintro e w2 ⟨C, d2, s2, rfl, hC, H2, hf2⟩
    go_wp2_with fail
    refine (impl_ReadStrings s B m d cs w2 a (hE1.fr hf2 (by simp)) (hB.fr_old hf2 (by simp)) (by omega)).mono ?_
    rintro e w3 ⟨D, d3, s3, rfl, hD, H3, hf3⟩
    obtain rfl : s2 = s3 := by rw [H2.out, H3.out]
    have hf13 := (hf1.trans hf2).trans hf3
    have hC3 := hC.fr_old hf3 (by simp)
    go_wp2_with fail
    go_loopw [41] (fun i wr => ∃ k, k ≤ m ∧ i = .int .i64 (k : Int) ∧ ∃ q, wr = w3.drewN q) (fun i _ => m - (intOf i).toNat)
    case atStart => exact ⟨0, Nat.zero_le _, rfl, 0, rfl⟩
    case round =>
      obtain ⟨k, hk, rfl, q, rfl⟩ := hrel
      by_cases hlt : k < m
      · have hp := parts_get (readl s cs) m k hlt
        obtain ⟨ga, rfl, ca⟩ := hC3.get (by omega)
        obtain ⟨a0, a1, a2⟩ := pcells_get (parts (readl s cs) m) k _ _ hp
        have x0 := ca _ _ a0
        have x1 := ca _ _ a1
        have x2 := ca _ _ a2
        obtain ⟨gb, rfl, cb⟩ := hD.get (by omega)
        have y0 := cb _ _ a0
        have y1 := cb _ _ a1
        have y2 := cb _ _ a2
        generalize line (left s cs k) (cs.getD k 0) = t at *
        generalize misses (left s cs k) (cs.getD k 0) = eo at *
        clear ca cb a0 a1 a2 hp
        go_wp2_with fail
        go_quiet (fail)
        go_wp2
        go_roundw
        case rel => exact ⟨k + 1, by omega, by go_num, _, rfl⟩
        case measure => simp [intOf]; omega
      · have hTl := text_readl_le s cs m (by have := HM.out; omega)
        have hTe := text_readl s cs m (by have := HM.out; omega)
        rw [← H2.out] at hTe
        have hl2 : s2.length ≤ 4096 := by rw [H2.out]; have := left_length s cs m; omega
        go_wp2_with fail
        refine (laws_joined C m d2 (readl s cs) _ (hC3.drewN _) (by omega) (by omega)).mono ?_
        rintro e w4 ⟨T, rfl, H4, hf4⟩
        rw [← H4.out] at hTl hTe
        have HTE := Lib.hid hTe
        clear hTe
        go_wp2_with fail
        go_ret
        exact ⟨ret_true (by simp [HTE.out]), ((hf13.drewN q).trans hf4).below (Nat.le_refl _) (by simp)⟩
  · refine (large_yes A n c w (by omega)).mono ?_
    rintro e w1 ⟨rfl, rfl⟩
    go_wp2_with fail
    go_ret
    exact ⟨rfl, Below.refl _ _⟩

end Go.Proofs.YtbogmdgooifhnaaDoor
