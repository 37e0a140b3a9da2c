/- The law that lines take all: a range over a text. -/
import Derived.Test.YtbogmdgooifhnaaDoorLawN
import Derived.Lib.OthersKept
namespace Go.Proofs.YtbogmdgooifhnaaDoor
open Go.RowKit
set_option linter.unusedVariables false
attribute [local go_sem ↓] Go.wp_at_zero Go.wp_at_succ

/-- A text that begins with a byte that continues no rune. -/
def okD : Value → Bool
  | .string s => match s.data.toList with
    | y :: _ => decide (y.toNat / 64 ≠ 2)
    | [] => false
  | _ => false

theorem rd_of_ok (w : World) (r : Nat) (A : Option Addr) (n c : Nat) (l : List UInt8) (q : Nat) (h : Dr w r A n c l q) (hq : q ≤ 1000000) (bd : Addr) (k d : Nat) (vs : List Value) (hL : Slv w (some bd) k vs) (hb : bd.block ≠ r) (hv : vs.all okD = true) (h1 : 1 ≤ k) (hk : k ≤ 1000) :
    Calls Tryd.prog 43 #[.pointer (some ⟨r, 0, none⟩), .slice (some bd) k d] w fun e w' => ∃ (y : UInt8) (t : List UInt8), e = .returned (.string ⟨(y :: t).toArray⟩) ∧ y.toNat / 64 ≠ 2 ∧ Dr w' r A n c l (q + 1) ∧ Fr [r] w w' := by
  go_enter Tryd.func43, Tryd.ntmps43
  go_wp2_with fail
  refine (rd_pick w r A n c l q k h hq h1 (by omega)).mono ?_
  rintro e w1 ⟨x, rfl, hx, hD, hf⟩
  have hL1 := hL.fr hf (fun ad e => by injection e with e; rw [← e]; simpa using hb)
  obtain ⟨ad, u, e, hu, hc⟩ := hL1.at_ hx
  injection e with e
  subst e
  have hok : okD u = true := List.all_eq_true.1 hv u (List.mem_of_getElem? hu)
  cases u with
  | string s =>
    obtain ⟨⟨t⟩⟩ := s
    cases t with
    | nil => simp [okD] at hok
    | cons y t =>
      have hy : y.toNat / 64 ≠ 2 := by simpa [okD] using hok
      clear hok
      clear hu hv
      go_wp2_with fail
      go_ret
      exact ⟨y, t, rfl, hy, hD, hf⟩
  | _ => simp [okD] at hok

/-- The loop of DrawReadSlices. -/
def DelRel' (w : World) (r : Nat) (A : Option Addr) (n c : Nat) (l : List UInt8) (q : Nat) (v i : Value) (wr : World) : Prop :=
  ∃ (k : Nat) (cs : List UInt8), k ≤ 5 ∧ i = .int .i64 (k : Int) ∧ cs.length + k ≤ 5 ∧ wr.ownsRow w.heap.size 5 1 v cs.length (cs.map bv) ∧ (∀ y ∈ cs, y.toNat / 64 ≠ 2) ∧ Dr wr r A n c l (q + (5 - k)) ∧ Fr [r] w wr

set_option maxHeartbeats 1600000 in
theorem DrawReadSlices_ok (A : Option Addr) (n c : Nat) (l : List UInt8) (w : World) (hS : Sl w A n l) (hn : n ≤ 1048576) :
    Calls Tryd.prog 24 #[.slice A n c] w fun e w' => ∃ (s : List UInt8) (B : Option Addr) (k d : Nat) (cs : List UInt8), e = .returned (.tuple #[.string ⟨s.toArray⟩, .slice B k d]) ∧ s.length ≤ 4096 ∧ k ≤ 5 ∧ Sl w' B k cs ∧ (∀ y ∈ cs, y.toNat / 64 ≠ 2) ∧ Fr [] w w' := by
  have HA := Lib.hid (show 0 < n → ∀ ad, A = some ad → ad.block < w.heap.size from hS.old)
  go_enter Tryd.func24, Tryd.ntmps24
  go_wp2_with fail
  refine (rd_long _ w.heap.size A n c l 0 (Dr.made hS hn) (by omega)).mono ?_
  rintro e w1 ⟨s, rfl, hs, hD1, hf1⟩
  have hf01 : Fr [] w w1 := ((Fr.refl [] w).alloc _).trans_of hf1 (by simp)
  go_wp2_with fail
  refine (rd_pick _ w.heap.size A n c l _ 6 (hD1.alloc _) (by omega) (by omega) (by omega)).mono ?_
  rintro e w2 ⟨x, rfl, hx, hD2, hf2⟩
  have hlt := hD1.lt
  go_wp2_with fail
  go_loopw [6, 7] (fun v i wr => DelRel' w1 w.heap.size A n c l 30 v i wr) (fun _ i _ => (intOf i).toNat)
  case atStart =>
    refine ⟨x, [], by omega, rfl, by simp; omega, ?_, by simp, hD2.mono (by omega), ((Fr.refl [w.heap.size] w1).alloc _).trans hf2⟩
    exact hf2.own (own_empty w1 5 1) (by simp [Value.ownBlock]; omega)
  case round =>
    obtain ⟨k, cs, hk, rfl, hz, ho, hcs, hD, hf⟩ := hrel
    obtain ⟨A', c', rfl⟩ := own_form ho
    by_cases h0 : 0 < k
    · go_wp2_with fail
      have hltr := hD.lt
      refine (rd_of_ok _ w.heap.size A n c l _ (hD.alloc _) (by omega) _ 6 6 _ (slv_new _ _ _) (by simp; omega) (by decide) (by omega) (by omega)).mono ?_
      rintro e w3 ⟨y, t', rfl, hy, hD3, hf3⟩
      have hsz0 : 0 < (⟨(y :: t').toArray⟩ : ByteArray).size := by rw [str_size]; simp
      have hget : (⟨(y :: t').toArray⟩ : ByteArray)[0] = y := rfl
      have hne := own_ne_r hD ho (by decide)
      have ho2 := hf3.own (ho.alloc _) (fun y hy => by have := hne y hy; simpa using this)
      have hfr3 : Fr [w.heap.size] w1 w3 := (hf.alloc _).trans hf3
      have hsz : w1.heap.size ≤ w3.heap.size := hfr3.size
      obtain ⟨v', w', hrun, ho', hg', hb'⟩ := run_app (P := Tryd.prog) (w3.alloc (.cells #[.int .u8 (y.toNat : Int)] 5)) w1.heap.size 22 22 22 5 _ 1 1 Tryd.underlying22 infoB rfl (by decide) _ _ _ (ho2.alloc _) _ 1 _
        (src_one w3 (.int .u8 (y.toNat : Int)) 5 5 22 Tryd.underlying22 rfl 1) (by omega) (by omega) (by simp; omega)
      have HY := Lib.hid hy
      clear hy
      go_wp2_with (at_builtin; refine wpList_append_run rfl _ _ _ _ rfl rfl rfl hrun ?_)
      go_roundw
      case rel =>
        refine ⟨k - 1, cs ++ [y], by omega, by congr 1; omega, by simp; omega, ?_, ?_, (hD3.app (w := w1) ho2 (fun h0 ad e => Nat.lt_of_lt_of_le (HA.out h0 ad e) hf01.size) (by decide) hg').mono (by omega), hfr3.app ho2 hg'⟩
        · rw [List.length_append, List.map_append]
          exact ho'
        · intro z hz
          rcases List.mem_append.1 hz with hz | hz
          · exact hcs z hz
          · simp at hz
            subst hz
            exact HY.out
      case measure => simp [intOf]; omega
    · go_wp2_with fail
      go_ret2
      exact ⟨s, _, _, _, cs, rfl, by omega, by omega, own_sl ho, hcs, hf01.trans_of hf (by simp)⟩

theorem DrawReadStrings_ok (A : Option Addr) (n c : Nat) (l : List UInt8) (w : World) (hS : Sl w A n l) (hn : n ≤ 1048576) :
    Calls Tryd.prog 19 #[.slice A n c] w fun e w' => ∃ (s : List UInt8) (B : Option Addr) (k d : Nat) (cs : List UInt8), e = .returned (.tuple #[.string ⟨s.toArray⟩, .slice B k d]) ∧ s.length ≤ 4096 ∧ k ≤ 5 ∧ Sl w' B k cs ∧ (∀ y ∈ cs, y.toNat / 64 ≠ 2) ∧ Fr [] w w' := by
  go_enter Tryd.func19, Tryd.ntmps19
  go_wp2_with fail
  refine (DrawReadSlices_ok A n c l w hS hn).mono ?_
  rintro e w1 ⟨s, B, k, d, cs, rfl, hs, hk, hB, hcs, hf⟩
  go_wp2_with fail
  go_ret2
  exact ⟨s, B, k, d, cs, rfl, hs, hk, hB, hcs, hf⟩

/-- A step of a range goes over bytes that continue a rune. -/
theorem decode_step (s : List UInt8) (p : Nat) (hp : p < s.length) : 1 ≤ (Utf8.decode ⟨s.toArray⟩ p).2 ∧ p + (Utf8.decode ⟨s.toArray⟩ p).2 ≤ s.length ∧ ∀ j, p < j → j < p + (Utf8.decode ⟨s.toArray⟩ p).2 → ∀ y, s[j]? = some y → y.toNat / 64 = 2 := by
  have hsz : (⟨s.toArray⟩ : ByteArray).size = s.length := str_size s
  have hget : ∀ j y, s[j]? = some y → ((⟨s.toArray⟩ : ByteArray).get! j) = y := fun j y h => by
    obtain ⟨hj, rfl⟩ := List.getElem?_eq_some_iff.1 h
    simp [ByteArray.get!, hj]
  unfold Utf8.decode
  simp only [hsz]
  split
  · exact ⟨by simp, by simp; omega, fun j h1 h2 => by simp at h2; omega⟩
  · split
    · rename_i h
      simp only [Bool.and_eq_true, decide_eq_true_eq, beq_iff_eq] at h
      split
      · refine ⟨by simp, by simp; omega, fun j h1 h2 y hy => ?_⟩
        simp at h2
        obtain rfl : j = p + 1 := by omega
        rw [← hget _ _ hy]
        exact h.2.2
      · exact ⟨by simp, by simp; omega, fun j h1 h2 => by simp at h2; omega⟩
    · split
      · rename_i h
        simp only [Bool.and_eq_true, decide_eq_true_eq, beq_iff_eq] at h
        split
        · refine ⟨by simp, by simp; omega, fun j h1 h2 y hy => ?_⟩
          simp at h2
          rw [← hget _ _ hy]
          rcases (show j = p + 1 ∨ j = p + 2 by omega) with rfl | rfl
          · exact h.1.2.2
          · exact h.2.2
        · exact ⟨by simp, by simp; omega, fun j h1 h2 => by simp at h2; omega⟩
      · split
        · rename_i h
          simp only [Bool.and_eq_true, decide_eq_true_eq, beq_iff_eq] at h
          split
          · refine ⟨by simp, by simp; omega, fun j h1 h2 y hy => ?_⟩
            simp at h2
            rw [← hget _ _ hy]
            rcases (show j = p + 1 ∨ j = p + 2 ∨ j = p + 3 by omega) with rfl | rfl | rfl
            · exact h.1.1.2.2
            · exact h.1.2.2
            · exact h.2.2
          · exact ⟨by simp, by simp; omega, fun j h1 h2 => by simp at h2; omega⟩
        · exact ⟨by simp, by simp; omega, fun j h1 h2 => by simp at h2; omega⟩

end Go.Proofs.YtbogmdgooifhnaaDoor
