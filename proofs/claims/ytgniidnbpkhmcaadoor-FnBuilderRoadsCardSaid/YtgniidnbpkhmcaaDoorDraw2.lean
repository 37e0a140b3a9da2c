/- Drawn texts and sizes. -/
import Derived.Test.YtgniidnbpkhmcaaDoorDraw
namespace Go.Proofs.YtgniidnbpkhmcaaDoor
open Go.RowKit
set_option linter.unusedVariables false
attribute [local go_sem ↓] Go.wp_at_zero Go.wp_at_succ

section
variable {w w' : World} {r : Nat} {A : Option Addr} {n c : Nat} {l : List UInt8} {q : Nat}
theorem Dr.lt (h : Dr w r A n c l q) : r < w.heap.size := by obtain ⟨p, _, hk⟩ := h.blk; exact hk.lt
theorem Dr.fr {S : List Nat} (h : Dr w r A n c l q) (hf : Fr S w w') (hr : r ∉ S) (hA : 0 < n → ∀ ad, A = some ad → ad.block ∉ S) : Dr w' r A n c l q := by
  obtain ⟨p, hp, hk⟩ := h.blk
  exact ⟨⟨p, hp, hk.fr hf hr⟩, h.sl.fr' hf hA, h.len_le, h.ne⟩
theorem Dr.alloc (h : Dr w r A n c l q) (o : Obj) : Dr (w.alloc o) r A n c l q := h.fr ((Fr.refl [] w).alloc o) (by simp) (by simp)
theorem Dr.mono {q' : Nat} (h : Dr w r A n c l q) (hq : q ≤ q') : Dr w r A n c l q' := by
  obtain ⟨p, hp, hk⟩ := h.blk
  exact ⟨⟨p, by omega, hk⟩, h.sl, h.len_le, h.ne⟩
theorem Dr.step {p : Nat} (h : Dr w r A n c l q) (hk : Blk w r 72 #[.slice A n c, .int .i64 (p : Int)]) (hp : p ≤ q) (k : Nat) : Dr ((w.setCell ⟨r, 1, none⟩ (.int .i64 ((p + 1 : Nat) : Int))).drewN k) r A n c l (q + 1) ∧ Fr [r] w ((w.setCell ⟨r, 1, none⟩ (.int .i64 ((p + 1 : Nat) : Int))).drewN k) := by
  have hf : Fr [r] w ((w.setCell ⟨r, 1, none⟩ (.int .i64 ((p + 1 : Nat) : Int))).drewN k) := ((Fr.refl [r] w).setCell (.inl (by simp)) _).drewN k
  refine ⟨⟨⟨p + 1, by omega, (hk.set_ 1 _).drewN k⟩, h.sl.fr' hf ?_, h.len_le, h.ne⟩, hf⟩
  intro h0 ad e
  simpa using h.ne h0 ad e
end

theorem rd_pick (w : World) (r : Nat) (A : Option Addr) (n c : Nat) (l : List UInt8) (q m : Nat) (h : Dr w r A n c l q) (hq : q ≤ 1000000) (hm : 1 ≤ m) (hm' : m ≤ 1000000) :
    Calls Tryd.prog 36 #[.pointer (some ⟨r, 0, none⟩), .int .i64 (m : Int)] w fun e w' => ∃ x : Nat, e = .returned (.int .i64 (x : Int)) ∧ x < m ∧ Dr w' r A n c l (q + 1) ∧ Fr [r] w w' := by
  obtain ⟨p, hp, hk⟩ := h.blk
  have hn := h.sl.1
  have hle := h.len_le
  by_cases h0 : n = 0
  · subst h0
    refine (rd_pick_zero w r A c p m hk (by omega) hm hm').mono ?_
    rintro e w' ⟨rfl, rfl⟩
    obtain ⟨s1, s2⟩ := h.step hk hp 0
    exact ⟨0, rfl, by omega, s1, s2⟩
  · by_cases hpn : p < n
    · obtain ⟨ad, rfl, hb⟩ := h.sl.2 p (by omega)
      refine (rd_pick_in w r ad n c p m _ hk (h.ne (by omega) ad rfl) hb hpn hle hm hm').mono ?_
      rintro e w' ⟨rfl, rfl⟩
      obtain ⟨s1, s2⟩ := h.step hk hp 0
      exact ⟨_, rfl, Nat.mod_lt _ (by omega), s1, s2⟩
    · obtain ⟨ad, rfl, hb⟩ := h.sl.2 (p % n) (by rw [← hn]; exact Nat.mod_lt _ (by omega))
      obtain ⟨ad', e, hb'⟩ := h.sl.2 ((p * 7 + 3) % n) (by rw [← hn]; exact Nat.mod_lt _ (by omega))
      obtain rfl : ad = ad' := by simpa using e
      refine (rd_pick_mix w r ad n c p m _ _ hk (h.ne (by omega) ad rfl) hb hb' (by omega) (by omega) hle (by omega) hm hm').mono ?_
      rintro e w' ⟨x, rfl, hx, k, rfl⟩
      obtain ⟨s1, s2⟩ := h.step hk hp k
      exact ⟨x, rfl, hx, s1, s2⟩

/-- A string of one to four bytes. -/
def okS : Value → Bool
  | .string s => decide (1 ≤ s.size ∧ s.size ≤ 4)
  | _ => false
theorem slv_new (w : World) (cs : Array Value) (e : TypeId) : Slv (w.alloc (.cells cs e)) (some ⟨w.heap.size, 0, none⟩) cs.size cs.toList := by
  refine ⟨by simp, fun j hj => ⟨_, rfl, ?_⟩⟩
  rw [add_at, Nat.zero_add, cell_of_row _ _ j cs e (0, 0) (heap_alloc_new w _)]
  simp at hj
  simp [hj]

theorem rd_of (w : World) (r : Nat) (A : Option Addr) (n c : Nat) (l : List UInt8) (q : Nat) (h : Dr w r A n c l q) (hq : q ≤ 1000000) (bd : Addr) (k d : Nat) (vs : List Value) (hL : Slv w (some bd) k vs) (hb : bd.block ≠ r) (hv : vs.all okS = true) (h1 : 1 ≤ k) (hk : k ≤ 1000) :
    Calls Tryd.prog 64 #[.pointer (some ⟨r, 0, none⟩), .slice (some bd) k d] w fun e w' => ∃ s : List UInt8, e = .returned (.string ⟨s.toArray⟩) ∧ s.length ≤ 4 ∧ 1 ≤ s.length ∧ Dr w' r A n c l (q + 1) ∧ Fr [r] w w' := by
  go_enter Tryd.func64, Tryd.ntmps64
  go_wp2_with fail
  refine (rd_pick w r A n c l q k h hq h1 (by omega)).mono ?_
  rintro e w1 ⟨x, rfl, hx, hD, hf⟩
  have hL1 := hL.fr hf (fun ad e => by injection e with e; rw [← e]; simpa using hb)
  obtain ⟨ad, u, e, hu, hc⟩ := hL1.at_ hx
  injection e with e
  subst e
  have hok : okS u = true := List.all_eq_true.1 hv u (List.mem_of_getElem? hu)
  cases u with
  | string s =>
    obtain ⟨⟨t⟩⟩ := s
    have ht : 1 ≤ t.length ∧ t.length ≤ 4 := by simpa [okS, ByteArray.size] using hok
    clear hok
    clear hu hv
    go_wp2_with fail
    go_ret
    exact ⟨t, rfl, ht.2, ht.1, hD, hf⟩
  | _ => simp [okS] at hok

/-- The loop of text: k more rounds. -/
def TextRel (w : World) (r : Nat) (A : Option Addr) (n c : Nat) (l : List UInt8) (q N : Nat) (out i : Value) (wr : World) : Prop :=
  ∃ (k : Nat) (s : List UInt8), k ≤ N ∧ i = .int .i64 (k : Int) ∧ out = .string ⟨s.toArray⟩ ∧ s.length ≤ 4 * (N - k) ∧ Dr wr r A n c l (q + 2 * (N - k)) ∧ Fr [r] w wr

theorem text_step {w wr w2 : World} {r : Nat} {A : Option Addr} {n c : Nat} {l : List UInt8} {q N k : Nat} {s t : List UInt8} {o : Obj} {q' : Nat} (hk : k ≤ N) (h0 : 0 < k) (hs : s.length ≤ 4 * (N - k)) (hf : Fr [r] w wr) (ht : t.length ≤ 4) (hD : Dr w2 r A n c l q') (hf2 : Fr [r] (wr.alloc o) w2) (hq : q' ≤ q + 2 * (N - k) + 2) :
    TextRel w r A n c l q N (.string ⟨(s ++ t).toArray⟩) (.int .i64 ((k : Int) - 1)) w2 := by
  refine ⟨k - 1, s ++ t, by omega, ?_, rfl, ?_, hD.mono (by omega), (hf.alloc o).trans hf2⟩
  · congr 1
    omega
  · simp
    omega

set_option maxHeartbeats 1600000 in
theorem rd_textc (w : World) (r : Nat) (A : Option Addr) (n c : Nat) (l : List UInt8) (q N : Nat) (h : Dr w r A n c l q) (hq : q ≤ 900000) (hN : N ≤ 1000) :
    Calls Tryd.prog 52 #[.pointer (some ⟨r, 0, none⟩), .int .i64 (N : Int)] w fun e w' => ∃ s : List UInt8, e = .returned (.string ⟨s.toArray⟩) ∧ s.length ≤ 4 * N ∧ Dr w' r A n c l (q + 2 + 2 * N) ∧ Fr [r] w w' := by
  go_enter Tryd.func52, Tryd.ntmps52
  go_wp2_with fail
  refine (rd_pick w r A n c l q 4 h (by omega) (by omega) (by omega)).mono ?_
  rintro e w1 ⟨x, rfl, hx, hD1, hf1⟩
  go_wp2_with fail
  refine (rd_pick w1 r A n c l (q + 1) (N + 1) hD1 (by omega) (by omega) (by omega)).mono ?_
  rintro e w2 ⟨y, rfl, hy, hD2, hf2⟩
  have hf12 := hf1.trans hf2
  go_wp2_with fail
  go_loopw [5, 7] (fun out i wr => TextRel w r A n c l (q + 2) N out i wr) (fun _ i _ => (intOf i).toNat)
  case atStart =>
    exact ⟨y, [], by omega, rfl, rfl, by simp, hD2.mono (by omega), hf12⟩
  case round =>
    obtain ⟨k, s, hk, rfl, rfl, hs, hD, hf⟩ := hrel
    have hlt := hD.lt
    by_cases h0 : 0 < k
    · rcases (show (((x : Int) == 0) = true) ∨ (((x : Int) == 0) = false ∧ ((x : Int) == 1) = true) ∨ (((x : Int) == 0) = false ∧ ((x : Int) == 1) = false ∧ ((x : Int) == 2) = true) ∨ (((x : Int) == 0) = false ∧ ((x : Int) == 1) = false ∧ ((x : Int) == 2) = false) by simp; omega) with m0 | ⟨m0, m1⟩ | ⟨m0, m1, m2⟩ | ⟨m0, m1, m2⟩
      · go_wp2_with fail
        refine (rd_of _ r A n c l _ (hD.alloc _) (by omega) _ 3 3 _ (slv_new _ _ _) (by simp; omega) (by decide) (by omega) (by omega)).mono ?_
        rintro e w3 ⟨t, rfl, ht, _, hD3, hf3⟩
        go_wp2_with fail
        go_roundw
        case rel => exact text_step hk h0 hs hf ht hD3 hf3 (by omega)
        case measure => simp [intOf]; omega
      · go_wp2_with fail
        refine (rd_pick _ r A n c l _ 3 hD (by omega) (by omega) (by omega)).mono ?_
        rintro e w3 ⟨z, rfl, hz, hD3, hf3⟩
        have hlt3 := hD3.lt
        by_cases hz0 : z = 0
        · have hzb : ((z : Int) == 0) = true := by simp; omega
          clear hz0
          go_wp2_with fail
          refine (rd_of _ r A n c l _ (hD3.alloc _) (by omega) _ 11 11 _ (slv_new _ _ _) (by simp; omega) (by decide) (by omega) (by omega)).mono ?_
          rintro e w4 ⟨t, rfl, ht, _, hD4, hf4⟩
          go_wp2_with fail
          go_roundw
          case rel => exact text_step hk h0 hs (hf.trans hf3) ht hD4 hf4 (by omega)
          case measure => simp [intOf]; omega
        · have hzb : ((z : Int) == 0) = false := by simp; omega
          go_wp2_with fail
          refine (rd_of _ r A n c l _ (hD3.alloc _) (by omega) _ 6 6 _ (slv_new _ _ _) (by simp; omega) (by decide) (by omega) (by omega)).mono ?_
          rintro e w4 ⟨t, rfl, ht, _, hD4, hf4⟩
          go_wp2_with fail
          go_roundw
          case rel => exact text_step hk h0 hs (hf.trans hf3) ht hD4 hf4 (by omega)
          case measure => simp [intOf]; omega
      · go_wp2_with fail
        refine (rd_of _ r A n c l _ (hD.alloc _) (by omega) _ 13 13 _ (slv_new _ _ _) (by simp; omega) (by decide) (by omega) (by omega)).mono ?_
        rintro e w3 ⟨t, rfl, ht, _, hD3, hf3⟩
        go_wp2_with fail
        go_roundw
        case rel => exact text_step hk h0 hs hf ht hD3 hf3 (by omega)
        case measure => simp [intOf]; omega
      · go_wp2_with fail
        refine (rd_of _ r A n c l _ (hD.alloc _) (by omega) _ 6 6 _ (slv_new _ _ _) (by simp; omega) (by decide) (by omega) (by omega)).mono ?_
        rintro e w3 ⟨t, rfl, ht, _, hD3, hf3⟩
        go_wp2_with fail
        go_roundw
        case rel => exact text_step hk h0 hs hf ht hD3 hf3 (by omega)
        case measure => simp [intOf]; omega
    · go_wp2_with fail
      go_ret
      exact ⟨s, rfl, by omega, hD.mono (by omega), hf⟩

end Go.Proofs.YtgniidnbpkhmcaaDoor
