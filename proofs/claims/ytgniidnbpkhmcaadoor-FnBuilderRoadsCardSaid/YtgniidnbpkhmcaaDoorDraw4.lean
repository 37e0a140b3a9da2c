/- Drawn texts, numbers to truncate or grow by. -/
import Derived.Test.YtgniidnbpkhmcaaDoorDraw3
import Derived.Test.YtgniidnbpkhmcaaDoorNums
namespace Go.Proofs.YtgniidnbpkhmcaaDoor
open Go.RowKit
set_option linter.unusedVariables false
attribute [local go_sem ↓] Go.wp_at_zero Go.wp_at_succ

/-- The loop of texts: k more rounds. -/
def LongsRel (w : World) (r : Nat) (A : Option Addr) (n c : Nat) (l : List UInt8) (q : Nat) (v i : Value) (wr : World) : Prop :=
  ∃ (k : Nat) (ls : List (List UInt8)), k ≤ 5 ∧ i = .int .i64 (k : Int) ∧ ls.length + k ≤ 5 ∧ wr.ownsRow w.heap.size 9 1 v ls.length (ls.map sv) ∧ (∀ z ∈ ls, z.length ≤ 4096) ∧ Dr wr r A n c l (q + 20 * (5 - k)) ∧ Fr [] w wr

theorem sum_le (ls : List (List UInt8)) (h : ∀ z ∈ ls, z.length ≤ 4096) : (ls.map List.length).sum ≤ 4096 * ls.length := by
  induction ls with
  | nil => simp
  | cons x r ih =>
    have h1 := h x (by simp)
    have h2 := ih (fun z hz => h z (by simp [hz]))
    simp only [List.map_cons, List.sum_cons, List.length_cons]
    omega

theorem own_cap {w : World} {base : Nat} {e : TypeId} {size n c : Nat} {A : Option Addr} {xs : List Value} (h : w.ownsRow base e size (.slice A n c) n xs) : n ≤ c := by
  rcases h.2 with ⟨hv, h0⟩ | ⟨g, cap, cur, hv, _, _, hc, _⟩
  · omega
  · injection hv with _ _ hc'
    omega

set_option maxHeartbeats 800000 in
set_option maxRecDepth 100000 in
theorem DrawWriteStrings (A : Option Addr) (n c : Nat) (l : List UInt8) (w : World) (hS : Sl w A n l) (hn : n ≤ 1048576) :
    Calls Tryd.prog 26 #[.slice A n c] w fun e w' => ∃ (s : List UInt8) (B : Option Addr) (k d : Nat) (ls : List (List UInt8)), e = .returned (.tuple #[.string ⟨s.toArray⟩, .slice B k d]) ∧ s.length ≤ 4096 ∧ k ≤ 5 ∧ Slv w' B k (ls.map sv) ∧ (∀ z ∈ ls, z.length ≤ 4096) ∧ k ≤ d ∧ Fr [] w w' := by
  have hA : 0 < n → ∀ ad, A = some ad → ad.block < w.heap.size := hS.old
  have HA := Lib.hid hA
  clear hA
  go_enter Tryd.func26, Tryd.ntmps26
  go_wp2_with fail
  refine (rd_long _ w.heap.size A n c l 0 (Dr.made hS hn) (by omega)).mono ?_
  rintro e w1 ⟨s, rfl, hs, hD1, hf1⟩
  have hf01 := ((Fr.refl [] w).alloc (.cells #[.slice A n c, .int .i64 0] 72)).trans_of hf1 (by simp)
  have hsz1 := hf01.size
  have hlt1 := hD1.lt
  go_wp2_with fail
  refine (rd_pick _ w.heap.size A n c l _ 6 (hD1.alloc _) (by omega) (by omega) (by omega)).mono ?_
  rintro e w2 ⟨x, rfl, hx, hD2, hf2⟩
  go_wp2_with fail
  go_loopw [6, 7] (fun v i wr => LongsRel w w.heap.size A n c l 21 v i wr) (fun _ i _ => (intOf i).toNat)
  case atStart =>
    refine ⟨x, [], by omega, rfl, by simp; omega, ?_, by simp, hD2.mono (by omega), (hf01.alloc _).trans_of hf2 (by simp)⟩
    have := own_empty w1 9 1
    exact hf2.own (w := w1.alloc (.cells #[] 9)) ⟨this.1, by
      rcases this.2 with h | ⟨x, cap, cur, hv, hb', rest⟩
      · exact .inl h
      · exact .inr ⟨x, cap, cur, hv, Nat.le_trans hsz1 hb', rest⟩⟩ (by simp [Value.ownBlock]; omega)
  case round =>
    obtain ⟨k, ls, hk, rfl, hz, ho, hzz, hD, hf⟩ := hrel
    obtain ⟨A', c', rfl⟩ := own_form ho
    by_cases h0 : 0 < k
    · go_wp2_with fail
      refine (rd_long _ w.heap.size A n c l _ hD (by omega)).mono ?_
      rintro e w3 ⟨y, rfl, hy, hD3, hf3⟩
      have hne := own_ne_r hD ho (by decide)
      have ho3 := hf3.own ho (fun y hy => by have := hne y hy; simpa using this)
      have hfw := hf.trans_of hf3 (by simp)
      have hsz : w.heap.size ≤ w3.heap.size := hfw.size
      obtain ⟨v', w', hrun, ho', hg', hb'⟩ := run_app (P := Tryd.prog) (w3.alloc (.cells #[.string ⟨y.toArray⟩] 9)) w.heap.size 24 24 24 9 _ 1 16 Tryd.underlying24 infoStr rfl (by decide) _ _ _ (ho3.alloc _) _ 1 _
        (src_one w3 (.string ⟨y.toArray⟩) 9 9 24 Tryd.underlying24 rfl 1) (by omega) (by omega) (by simp; omega)
      go_wp2_with (at_builtin; refine wpList_append_run rfl _ _ _ _ rfl rfl rfl hrun ?_)
      go_roundw
      case rel =>
        refine ⟨k - 1, ls ++ [y], by omega, vint (by omega), by simp; omega, ?_, ?_, (hD3.app (w := w) ho3 HA.out (by decide) hg').mono (by omega), hfw.app ho3 hg'⟩
        · rw [List.length_append, List.map_append]
          exact ho'
        · intro z hz
          rcases List.mem_append.1 hz with hz | hz
          · exact hzz z hz
          · simp at hz
            subst hz
            exact hy
      case measure => simp [intOf]; omega
    · go_wp2_with fail
      go_ret2
      exact ⟨s, _, _, _, ls, rfl, hs, by omega, own_slv ho, hzz, own_cap ho, hf⟩

theorem DrawBuildStrings (A : Option Addr) (n c : Nat) (l : List UInt8) (w : World) (hS : Sl w A n l) (hn : n ≤ 1048576) :
    Calls Tryd.prog 8 #[.slice A n c] w fun e w' => ∃ (B : Option Addr) (k d : Nat) (ls : List (List UInt8)), e = .returned (.slice B k d) ∧ k ≤ 5 ∧ Slv w' B k (ls.map sv) ∧ (∀ z ∈ ls, z.length ≤ 4096) ∧ Fr [] w w' := by
  go_enter Tryd.func8, Tryd.ntmps8
  go_wp2_with fail
  refine (DrawWriteStrings A n c l w hS hn).mono ?_
  rintro e w1 ⟨s, B, k, d, ls, rfl, hs, hk, hB, hz, hkd, hf⟩
  go_wp2_with fail
  go_ret
  exact ⟨B, k, d, ls, rfl, hk, hB, hz, hf⟩
theorem DrawGrowAndWrite (A : Option Addr) (n c : Nat) (l : List UInt8) (w : World) (hS : Sl w A n l) (hn : n ≤ 1048576) :
    Calls Tryd.prog 22 #[.slice A n c] w fun e w' => ∃ (s : List UInt8) (z : Nat) (x : UInt8), e = .returned (.tuple #[.string ⟨s.toArray⟩, .int .u16 (z : Int), .int .u8 (x.toNat : Int)]) ∧ s.length ≤ 4096 ∧ z ≤ 4335 ∧ Fr [] w w' := by
  go_enter Tryd.func22, Tryd.ntmps22
  go_wp2_with fail
  refine (rd_long _ w.heap.size A n c l 0 (Dr.made hS hn) (by omega)).mono ?_
  rintro e w1 ⟨s, rfl, hs, hD1, hf1⟩
  go_wp2_with fail
  refine (rd_size w1 w.heap.size A n c l _ hD1 (by omega)).mono ?_
  rintro e w2 ⟨z, rfl, hz, hD2, hf2⟩
  go_wp2_with fail
  refine (rd_pick w2 w.heap.size A n c l _ 256 hD2 (by omega) (by omega) (by omega)).mono ?_
  rintro e w3 ⟨x, rfl, hx, hD3, hf3⟩
  obtain ⟨u, rfl⟩ : ∃ u : UInt8, x = u.toNat := ⟨UInt8.ofNat x, by simp; omega⟩
  go_wp2_with fail
  go_ret3
  exact ⟨s, z, u, rfl, hs, hz, ((((Fr.refl [] w).alloc _).trans_of hf1 (by simp)).trans_of hf2 (by simp)).trans_of hf3 (by simp)⟩

/-- One of five numbers in a new row. -/
theorem ints5 (w : World) (r : Nat) (a0 a1 a2 a3 a4 : Int) (h0 : -9223372036854775808 ≤ a0 ∧ a0 ≤ 9223372036854775807) (h1 : -9223372036854775808 ≤ a1 ∧ a1 ≤ 9223372036854775807) (h2 : -9223372036854775808 ≤ a2 ∧ a2 ≤ 9223372036854775807) (h3 : -9223372036854775808 ≤ a3 ∧ a3 ≤ 9223372036854775807) (h4 : -9223372036854775808 ≤ a4 ∧ a4 ≤ 9223372036854775807) (hr : r < w.heap.size) :
    ∀ (W : World) (y : Nat), Fr [r] (w.alloc (.cells #[.int .i64 a0, .int .i64 a1, .int .i64 a2, .int .i64 a3, .int .i64 a4] 3)).drew W → y < 5 → ∃ a : Int, W.cell? ⟨w.heap.size, y, none⟩ = some (.int .i64 a) ∧ -9223372036854775808 ≤ a ∧ a ≤ 9223372036854775807 := by
  intro W y hf hy
  have hk := (Blk.drew (Blk.new w 3 #[.int .i64 a0, .int .i64 a1, .int .i64 a2, .int .i64 a3, .int .i64 a4])).fr hf (by simp; omega)
  have hc := hk.cell y
  rcases (show y = 0 ∨ y = 1 ∨ y = 2 ∨ y = 3 ∨ y = 4 by omega) with rfl | rfl | rfl | rfl | rfl
  · exact ⟨a0, hc, h0⟩
  · exact ⟨a1, hc, h1⟩
  · exact ⟨a2, hc, h2⟩
  · exact ⟨a3, hc, h3⟩
  · exact ⟨a4, hc, h4⟩

end Go.Proofs.YtgniidnbpkhmcaaDoor
