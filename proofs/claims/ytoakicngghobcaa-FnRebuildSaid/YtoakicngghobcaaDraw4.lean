/- Drawn texts, numbers to truncate or grow by. -/
import Derived.Test.YtoakicngghobcaaDraw3
import Derived.Test.YtoakicngghobcaaNums
namespace Go.Proofs.Ytoakicngghobcaa
open Go.RowKit
set_option linter.unusedVariables false
attribute [local go_sem ↓] Go.wp_at_zero Go.wp_at_succ

/-- The loop of texts: k more rounds. -/
def LongsRel (w : World) (r : Nat) (A : Option Addr) (n c : Nat) (l : List UInt8) (q : Nat) (v i : Value) (wr : World) : Prop :=
  ∃ (k : Nat) (ls : List (List UInt8)), k ≤ 5 ∧ i = .int .i64 (k : Int) ∧ ls.length + k ≤ 5 ∧ wr.ownsRow w.heap.size 9 1 v ls.length (ls.map sv) ∧ (∀ z ∈ ls, z.length ≤ 4096) ∧ Dr wr r A n c l (q + 20 * (5 - k)) ∧ Fr [] w wr

theorem sum_le (ls : List (List UInt8)) (h : ∀ z ∈ ls, z.length ≤ 4096) : (ls.map List.length).sum ≤ 4096 * ls.length := by
  induction ls with
  | nil => simp
  | cons x r ih =>
    have h1 := h x (by simp)
    have h2 := ih (fun z hz => h z (by simp [hz]))
    simp only [List.map_cons, List.sum_cons, List.length_cons]
    omega

set_option maxHeartbeats 800000 in
set_option maxRecDepth 100000 in
theorem DrawWriteStrings (A : Option Addr) (n c : Nat) (l : List UInt8) (w : World) (hS : Sl w A n l) (hn : n ≤ 1048576) :
    Calls Try.prog 64 #[.slice A n c] w fun e w' => ∃ (s : List UInt8) (B : Option Addr) (k d : Nat) (ls : List (List UInt8)), e = .returned (.tuple #[.string ⟨s.toArray⟩, .slice B k d]) ∧ s.length ≤ 4096 ∧ k ≤ 5 ∧ Slv w' B k (ls.map sv) ∧ (∀ z ∈ ls, z.length ≤ 4096) ∧ Fr [] w w' := by
  have hA : 0 < n → ∀ ad, A = some ad → ad.block < w.heap.size := hS.old
  have HA := Lib.hid hA
  clear hA
  go_enter Try.func64, Try.ntmps64
  go_wp2_with fail
  refine (rd_long _ w.heap.size A n c l 0 (Dr.made hS hn) (by omega)).mono ?_
  rintro e w1 ⟨s, rfl, hs, hD1, hf1⟩
  have hf01 := ((Fr.refl [] w).alloc (.cells #[.slice A n c, .int .i64 0] 95)).trans_of hf1 (by simp)
  have hsz1 := hf01.size
  have hlt1 := hD1.lt
  go_wp2_with fail
  refine (rd_pick _ w.heap.size A n c l _ 6 (hD1.alloc _) (by omega) (by omega) (by omega)).mono ?_
  rintro e w2 ⟨x, rfl, hx, hD2, hf2⟩
  go_wp2_with fail
  go_loopw [6, 7] (fun v i wr => LongsRel w w.heap.size A n c l 21 v i wr) (fun _ i _ => (intOf i).toNat)
  case atStart =>
    refine ⟨x, [], by omega, rfl, by simp; omega, ?_, by simp, hD2.mono (by omega), (hf01.alloc _).trans_of hf2 (by simp)⟩
    have := own_empty w1 9 1
    exact hf2.own (w := w1.alloc (.cells #[] 9)) ⟨this.1, by
      rcases this.2 with h | ⟨x, cap, cur, hv, hb', rest⟩
      · exact .inl h
      · exact .inr ⟨x, cap, cur, hv, Nat.le_trans hsz1 hb', rest⟩⟩ (by simp [Value.ownBlock]; omega)
  case round =>
    obtain ⟨k, ls, hk, rfl, hz, ho, hzz, hD, hf⟩ := hrel
    obtain ⟨A', c', rfl⟩ := own_form ho
    by_cases h0 : 0 < k
    · go_wp2_with fail
      refine (rd_long _ w.heap.size A n c l _ hD (by omega)).mono ?_
      rintro e w3 ⟨y, rfl, hy, hD3, hf3⟩
      have hne := own_ne_r hD ho (by decide)
      have ho3 := hf3.own ho (fun y hy => by have := hne y hy; simpa using this)
      have hfw := hf.trans_of hf3 (by simp)
      have hsz : w.heap.size ≤ w3.heap.size := hfw.size
      obtain ⟨v', w', hrun, ho', hg', hb'⟩ := run_app (P := Try.prog) (w3.alloc (.cells #[.string ⟨y.toArray⟩] 9)) w.heap.size 32 32 32 9 _ 1 16 Try.underlying32 infoStr rfl (by decide) _ _ _ (ho3.alloc _) _ 1 _
        (src_one w3 (.string ⟨y.toArray⟩) 9 9 32 Try.underlying32 rfl 1) (by omega) (by omega) (by simp; omega)
      go_wp2_with (at_builtin; refine wpList_append_run rfl _ _ _ _ rfl rfl rfl hrun ?_)
      go_roundw
      case rel =>
        refine ⟨k - 1, ls ++ [y], by omega, by congr 1; omega, by simp; omega, ?_, ?_, (hD3.app (w := w) ho3 HA.out (by decide) hg').mono (by omega), hfw.app ho3 hg'⟩
        · rw [List.length_append, List.map_append]
          exact ho'
        · intro z hz
          rcases List.mem_append.1 hz with hz | hz
          · exact hzz z hz
          · simp at hz
            subst hz
            exact hy
      case measure => simp [intOf]; omega
    · go_wp2_with fail
      go_ret2
      exact ⟨s, _, _, _, ls, rfl, hs, by omega, own_slv ho, hzz, hf⟩

theorem DrawBuildStrings (A : Option Addr) (n c : Nat) (l : List UInt8) (w : World) (hS : Sl w A n l) (hn : n ≤ 1048576) :
    Calls Try.prog 45 #[.slice A n c] w fun e w' => ∃ (B : Option Addr) (k d : Nat) (ls : List (List UInt8)), e = .returned (.slice B k d) ∧ k ≤ 5 ∧ Slv w' B k (ls.map sv) ∧ (∀ z ∈ ls, z.length ≤ 4096) ∧ Fr [] w w' := by
  go_enter Try.func45, Try.ntmps45
  go_wp2_with fail
  refine (DrawWriteStrings A n c l w hS hn).mono ?_
  rintro e w1 ⟨s, B, k, d, ls, rfl, hs, hk, hB, hz, hf⟩
  go_wp2_with fail
  go_ret
  exact ⟨B, k, d, ls, rfl, hk, hB, hz, hf⟩
theorem DrawRebuildStrings (A : Option Addr) (n c : Nat) (l : List UInt8) (w : World) (hS : Sl w A n l) (hn : n ≤ 1048576) :
    Calls Try.prog 24 #[.slice A n c] w fun e w' => ∃ (B : Option Addr) (k d : Nat) (ls : List (List UInt8)), e = .returned (.slice B k d) ∧ k ≤ 5 ∧ Slv w' B k (ls.map sv) ∧ (∀ z ∈ ls, z.length ≤ 4096) ∧ Fr [] w w' := by
  go_enter Try.func24, Try.ntmps24
  go_wp2_with fail
  refine (DrawBuildStrings A n c l w hS hn).mono ?_
  rintro e w1 ⟨B, k, d, ls, rfl, hk, hB, hz, hf⟩
  go_wp2_with fail
  go_ret
  exact ⟨B, k, d, ls, rfl, hk, hB, hz, hf⟩

/-- One of five numbers in a new row. -/
theorem ints5 (w : World) (r : Nat) (a0 a1 a2 a3 a4 : Int) (h0 : -9223372036854775808 ≤ a0 ∧ a0 ≤ 9223372036854775807) (h1 : -9223372036854775808 ≤ a1 ∧ a1 ≤ 9223372036854775807) (h2 : -9223372036854775808 ≤ a2 ∧ a2 ≤ 9223372036854775807) (h3 : -9223372036854775808 ≤ a3 ∧ a3 ≤ 9223372036854775807) (h4 : -9223372036854775808 ≤ a4 ∧ a4 ≤ 9223372036854775807) (hr : r < w.heap.size) :
    ∀ (W : World) (y : Nat), Fr [r] (w.alloc (.cells #[.int .i64 a0, .int .i64 a1, .int .i64 a2, .int .i64 a3, .int .i64 a4] 3)).drew W → y < 5 → ∃ a : Int, W.cell? ⟨w.heap.size, y, none⟩ = some (.int .i64 a) ∧ -9223372036854775808 ≤ a ∧ a ≤ 9223372036854775807 := by
  intro W y hf hy
  have hk := (Blk.drew (Blk.new w 3 #[.int .i64 a0, .int .i64 a1, .int .i64 a2, .int .i64 a3, .int .i64 a4])).fr hf (by simp; omega)
  have hc := hk.cell y
  rcases (show y = 0 ∨ y = 1 ∨ y = 2 ∨ y = 3 ∨ y = 4 by omega) with rfl | rfl | rfl | rfl | rfl
  · exact ⟨a0, hc, h0⟩
  · exact ⟨a1, hc, h1⟩
  · exact ⟨a2, hc, h2⟩
  · exact ⟨a3, hc, h3⟩
  · exact ⟨a4, hc, h4⟩

set_option maxHeartbeats 1600000 in
theorem DrawTruncate (A : Option Addr) (n c : Nat) (l : List UInt8) (w : World) (hS : Sl w A n l) (hn : n ≤ 1048576) :
    Calls Try.prog 38 #[.slice A n c] w fun e w' => ∃ (s : List UInt8) (z : Nat) (a : Int), e = .returned (.tuple #[.string ⟨s.toArray⟩, .int .u16 (z : Int), .int .i64 a]) ∧ s.length ≤ 4096 ∧ z ≤ 4335 ∧ (-9223372036854775808 ≤ a ∧ a ≤ 9223372036854775807) ∧ Fr [] w w' := by
  go_enter Try.func38, Try.ntmps38
  go_wp2_with fail
  refine (rd_long _ w.heap.size A n c l 0 (Dr.made hS hn) (by omega)).mono ?_
  rintro e w1 ⟨s, rfl, hs, hD1, hf1⟩
  go_wp2_with fail
  refine (rd_size w1 w.heap.size A n c l _ hD1 (by omega)).mono ?_
  rintro e w2 ⟨z, rfl, hz, hD2, hf2⟩
  go_wp2_with fail
  refine (rd_pick w2 w.heap.size A n c l _ 8 hD2 (by omega) (by omega) (by omega)).mono ?_
  rintro e w3 ⟨x, rfl, hx, hD3, hf3⟩
  have hf := (((((Fr.refl [] w).alloc (.cells #[.slice A n c, .int .i64 0] 95)).trans_of hf1 (by simp)).trans_of hf2 (by simp)).trans_of hf3 (by simp))
  rcases (show (((x : Int) == 0) = true) ∨ (((x : Int) == 0) = false ∧ ((x : Int) == 1) = true) ∨ (((x : Int) == 0) = false ∧ ((x : Int) == 1) = false ∧ ((x : Int) == 2) = true) ∨ (((x : Int) == 0) = false ∧ ((x : Int) == 1) = false ∧ ((x : Int) == 2) = false) by simp; omega) with m0 | ⟨m0, m1⟩ | ⟨m0, m1, m2⟩ | ⟨m0, m1, m2⟩
  · have hlt := hD3.lt
    have HV := Lib.hid (ints5 w3 w.heap.size (-1) (s.length : Int) ((s.length : Int) + 1) (-9223372036854775808) 9223372036854775807 (by omega) (by omega) (by omega) (by omega) (by omega) hlt)
    have hP0 : Calls Try.prog 62 #[.pointer (some ⟨w.heap.size, 0, none⟩), .int .i64 5] _ _ := rd_pick (w3.alloc (.cells #[.int .i64 (-1), .int .i64 (s.length : Int), .int .i64 ((s.length : Int) + 1), .int .i64 (-9223372036854775808), .int .i64 9223372036854775807] 3)).drew w.heap.size A n c l _ 5 ((hD3.alloc _).fr ((Fr.refl [] _).drew) (by simp) (by simp)) (by omega) (by omega) (by omega)
    have HP := Lib.hid hP0
    clear hP0
    have hfr := Lib.hid ((hf.alloc (.cells #[.int .i64 (-1), .int .i64 (s.length : Int), .int .i64 ((s.length : Int) + 1), .int .i64 (-9223372036854775808), .int .i64 9223372036854775807] 3)).drew)
    clear hf hD1 hD2 hD3 hf1 hf2 hf3
    go_wp2_with fail
    go_region_with ((go_at_call 62; ((with_reducible refine HP.out.mono ?_); rintro e w4 ⟨y, rfl, hy, hD4, hf4⟩; obtain ⟨a, hc, ha⟩ := HV.out w4 y hf4 hy)))
    all_goals
      go_wp2_with fail
      go_ret3
      exact ⟨s, z, a, rfl, hs, hz, ha, hfr.out.trans_of hf4 (by simp)⟩
  · go_wp2_with fail
    go_ret3
    exact ⟨s, z, _, rfl, hs, hz, by omega, hf⟩
  · go_wp2_with fail
    go_ret3
    exact ⟨s, z, _, rfl, hs, hz, by omega, hf⟩
  · go_wp2_with fail
    refine (rd_pick w3 w.heap.size A n c l _ (s.length + 2) hD3 (by omega) (by omega) (by omega)).mono ?_
    rintro e w4 ⟨y, rfl, hy, hD4, hf4⟩
    go_wp2_with fail
    go_ret3
    exact ⟨s, z, _, rfl, hs, hz, by omega, hf.trans_of hf4 (by simp)⟩

end Go.Proofs.Ytoakicngghobcaa
