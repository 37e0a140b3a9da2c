/- A drawn script: how many calls it has. -/
import Derived.Test.YtgjaeggpaomoaaaDoorDrawS
import Derived.Test.YtgjaeggpaomoaaaDoorScr
namespace Go.Proofs.YtgjaeggpaomoaaaDoor
open Go.RowKit
set_option linter.unusedVariables false
attribute [local go_sem ↓] Go.wp_at_zero Go.wp_at_succ

theorem infoOs : (Tryd.prog.info? 29).map (fun i => (i.zero, i.size, i.bytes)) = some (some (.agg #[.string ByteArray.empty, .string ByteArray.empty, .int .u16 0, .int .i64 0, .int .i32 0]), 5, 56) := by kernel_rfl
/-- The loop: k more rounds. -/
def OpsRel (w : World) (r : Nat) (A : Option Addr) (n c : Nat) (l : List UInt8) (u i : Value) (wr : World) : Prop :=
  ∃ (k m : Nat) (os : List OpV), i = .int .i64 (k : Int) ∧ m + k ≤ 13 ∧ wr.ownsRow w.heap.size 29 5 u m (os.flatMap OpV.cells) ∧ Hid (m = os.length ∧ ∀ o ∈ os, Drawn o.kind o.text o.size o.n o.char) ∧ Dr wr r A n c l (20 + 16 * m) ∧ Fr [] w wr

set_option maxHeartbeats 1600000 in
set_option maxRecDepth 100000 in
theorem DrawRunBufferX (A : Option Addr) (n c : Nat) (l : List UInt8) (w : World) (hS : Sl w A n l) (hn : n ≤ 1048576) :
    Calls Tryd.prog 26 #[.slice A n c] w fun e w' => ∃ (s : List UInt8) (B : Option Addr) (k d : Nat) (os : List OpV), e = .returned (.tuple #[.string ⟨s.toArray⟩, .slice B k d]) ∧ s.length ≤ 32 ∧ k ≤ 13 ∧ Rs w' B k 5 (os.flatMap OpV.cells) ∧ Hid (k = os.length ∧ ∀ o ∈ os, Drawn o.kind o.text o.size o.n o.char) ∧ Fr [] w w' := by
  have hA : 0 < n → ∀ ad, A = some ad → ad.block < w.heap.size := hS.old
  have HA := Lib.hid hA
  clear hA
  have ht : Calls Tryd.prog 36 #[.pointer (some ⟨w.heap.size, 0, none⟩), .int .i64 8] (w.alloc (.cells #[.slice A n c, .int .i64 0] 80)) _ := rd_textc _ w.heap.size A n c l 0 8 (Dr.made hS hn) (by omega) (by omega)
  have HT := Lib.hid ht
  clear ht hS
  go_enter Tryd.func26, Tryd.ntmps26
  go_wp2_with fail
  refine HT.out.mono ?_
  rintro e w1 ⟨s, rfl, hs, hD1, hf1⟩
  have hf01 := ((Fr.refl [] w).alloc (.cells #[.slice A n c, .int .i64 0] 80)).trans_of hf1 (by simp)
  have hsz1 := hf01.size
  have hlt1 := hD1.lt
  go_wp2_with fail
  refine (rd_pick _ w.heap.size A n c l _ 14 (hD1.alloc _) (by omega) (by omega) (by omega)).mono ?_
  rintro e w2 ⟨y, rfl, hy, hD2, hf2⟩
  go_wp2_with fail
  go_loopw [6, 7] (fun u i wr => OpsRel w w.heap.size A n c l u i wr) (fun _ i _ => (intOf i).toNat)
  case atStart =>
    refine ⟨y, 0, [], rfl, by omega, ?_, ⟨rfl, by simp⟩, hD2.mono (by omega), (hf01.alloc _).trans_of hf2 (by simp)⟩
    have := own_empty w1 29 5
    exact hf2.own (w := w1.alloc (.cells #[] 29)) ⟨this.1, by
      rcases this.2 with h | ⟨x, cap, cur, hv, hb', rest⟩
      · exact .inl h
      · exact .inr ⟨x, cap, cur, hv, Nat.le_trans hsz1 hb', rest⟩⟩ (by simp [Value.ownBlock]; omega)
  case round =>
    obtain ⟨k, m, os, rfl, hm, ho, HD0, hD, hf⟩ := hrel
    obtain ⟨A', c', rfl⟩ := own_form ho
    by_cases h0 : 0 < k
    · go_wp2_with fail
      refine (rd_op _ w.heap.size A n c l _ hD (by omega)).mono ?_
      rintro e w3 ⟨kk, tt, zz, xx, yy, rfl, hD3, hf3, HDR⟩
      have hne := own_ne_r hD ho (by decide)
      have ho3 := hf3.own ho (fun y hy => by have := hne y hy; simpa using this)
      have hfw := hf.trans_of hf3 (by simp)
      have hsz : w.heap.size ≤ w3.heap.size := hfw.size
      obtain ⟨v', w', hrun, ho', hg', hb'⟩ := run_app (P := Tryd.prog) (w3.alloc (.cells #[.string ⟨kk.toArray⟩, .string ⟨tt.toArray⟩, .int .u16 (zz : Int), .int .i64 xx, .int .i32 yy] 29)) w.heap.size 25 25 25 29 _ 5 56 Tryd.underlying25 infoOs rfl (by decide) _ _ _ (ho3.alloc _) _ 1 _
        (src_blk w3 #[.string ⟨kk.toArray⟩, .string ⟨tt.toArray⟩, .int .u16 (zz : Int), .int .i64 xx, .int .i32 yy] 29 29 25 Tryd.underlying25 5 rfl (by simp [Value.oneCell']) 1) (by omega) (by omega) (by simp; omega)
      go_wp2_with (at_builtin; refine wpList_append_run rfl _ _ _ _ rfl rfl rfl hrun ?_)
      go_roundw
      case rel => exact ⟨k - 1, m + 1, os ++ [⟨kk, tt, zz, xx, yy⟩], vint (by omega), by omega, by rw [recs_snoc]; exact ho', ⟨by simp [HD0.out.1], fun o ho => by rcases List.mem_append.1 ho with h | h; exact HD0.out.2 o h; (simp only [List.mem_singleton] at h; rw [h]; exact HDR.out)⟩, (hD3.app (w := w) ho3 HA.out (by decide) hg').mono (by omega), hfw.app ho3 hg'⟩
      case measure => simp [intOf]; omega
    · go_wp2_with fail
      go_ret2
      exact ⟨_, _, _, _, os, rfl, by omega, by omega, own_rs ho, HD0, hf⟩

theorem DrawRunBuffer (A : Option Addr) (n c : Nat) (l : List UInt8) (w : World) (hS : Sl w A n l) (hn : n ≤ 1048576) :
    Calls Tryd.prog 26 #[.slice A n c] w fun e w' => ∃ (s : List UInt8) (B : Option Addr) (k d : Nat), e = .returned (.tuple #[.string ⟨s.toArray⟩, .slice B k d]) ∧ s.length ≤ 32 ∧ k ≤ 13 ∧ Fr [] w w' := by
  refine (DrawRunBufferX A n c l w hS hn).mono ?_
  rintro e w' ⟨s, B, k, d, os, rfl, h1, h2, _, _, hf⟩
  exact ⟨s, B, k, d, rfl, h1, h2, hf⟩

end Go.Proofs.YtgjaeggpaomoaaaDoor
