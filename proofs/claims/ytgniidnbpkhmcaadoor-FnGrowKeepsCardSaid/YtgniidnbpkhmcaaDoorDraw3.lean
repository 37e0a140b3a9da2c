/- Long texts, sizes, and the draws that take them. -/
import Derived.Test.YtgniidnbpkhmcaaDoorDraw2
namespace Go.Proofs.YtgniidnbpkhmcaaDoor
open Go.RowKit
set_option linter.unusedVariables false
attribute [local go_sem ↓] Go.wp_at_zero Go.wp_at_succ

/-- The loop of long. -/
def LongRel (s i : Value) : Prop := ∃ (k : Nat) (t : List UInt8), k ≤ 7 ∧ i = .int .i64 (k : Int) ∧ s = .string ⟨t.toArray⟩ ∧ t.length * 2 ^ k ≤ 4096

set_option maxHeartbeats 800000 in
theorem rd_long (w : World) (r : Nat) (A : Option Addr) (n c : Nat) (l : List UInt8) (q : Nat) (h : Dr w r A n c l q) (hq : q ≤ 800000) :
    Calls Tryd.prog 35 #[.pointer (some ⟨r, 0, none⟩)] w fun e w' => ∃ s : List UInt8, e = .returned (.string ⟨s.toArray⟩) ∧ s.length ≤ 4096 ∧ Dr w' r A n c l (q + 20) ∧ Fr [r] w w' := by
  go_enter Tryd.func35, Tryd.ntmps35
  go_wp2_with fail
  refine (rd_textc w r A n c l q 8 h (by omega) (by omega)).mono ?_
  rintro e w1 ⟨s, rfl, hs, hD1, hf1⟩
  go_wp2_with fail
  refine (rd_pick w1 r A n c l _ 6 hD1 (by omega) (by omega) (by omega)).mono ?_
  rintro e w2 ⟨x, rfl, hx, hD2, hf2⟩
  by_cases h0 : 0 < x
  · go_wp2_with fail
    go_ret
    exact ⟨s, rfl, by omega, hD2.mono (by omega), hf1.trans hf2⟩
  · go_wp2_with fail
    refine (rd_pick w2 r A n c l _ 8 hD2 (by omega) (by omega) (by omega)).mono ?_
    rintro e w3 ⟨y, rfl, hy, hD3, hf3⟩
    have hf13 := (hf1.trans hf2).trans hf3
    have hst : s.length * 2 ^ y ≤ 4096 := by
      have h1 : 2 ^ y ≤ 2 ^ 7 := Nat.pow_le_pow_right (by omega) (by omega)
      have h2 : s.length * 2 ^ y ≤ 32 * 2 ^ 7 := Nat.mul_le_mul (by omega) h1
      omega
    have HST := Lib.hid hst
    clear hst
    go_wp2_with fail
    go_loop [3, 4] (fun t i => LongRel t i) (fun _ i => (intOf i).toNat)
    case atStart => exact ⟨y, s, by omega, rfl, rfl, HST.out⟩
    case round =>
      obtain ⟨k, t, hk7, rfl, rfl, ht⟩ := hrel
      have HT := Lib.hid ht
      clear ht
      by_cases hk : 0 < k
      · by_cases hl : 0 < t.length
        · have hlt : t.length ≤ 4096 := by
            have := HT.out
            have h1 : 1 ≤ 2 ^ k := Nat.one_le_two_pow
            have := Nat.le_mul_of_pos_right t.length (show 0 < 2 ^ k by omega)
            omega
          go_wp2_with fail
          go_round
          case rel =>
            refine ⟨k - 1, t ++ t, by omega, vint (by omega), rfl, ?_⟩
            have := HT.out
            rw [List.length_append]
            have e : 2 ^ k = 2 ^ (k - 1) * 2 := by rw [← Nat.pow_succ]; congr 1; omega
            rw [e] at this
            have : (t.length + t.length) * 2 ^ (k - 1) = t.length * (2 ^ (k - 1) * 2) := by
              rw [← Nat.mul_two, Nat.mul_assoc, Nat.mul_comm 2]
            omega
          case measure => simp [intOf]; omega
        · go_wp2_with fail
          go_ret
          exact ⟨t, rfl, by omega, hD3.mono (by omega), hf13⟩
      · go_wp2_with fail
        go_ret
        refine ⟨t, rfl, ?_, hD3.mono (by omega), hf13⟩
        have := HT.out
        rw [show k = 0 by omega] at this
        omega

theorem rd_size (w : World) (r : Nat) (A : Option Addr) (n c : Nat) (l : List UInt8) (q : Nat) (h : Dr w r A n c l q) (hq : q ≤ 800000) :
    Calls Tryd.prog 44 #[.pointer (some ⟨r, 0, none⟩)] w fun e w' => ∃ z : Nat, e = .returned (.int .u16 (z : Int)) ∧ z ≤ 4335 ∧ Dr w' r A n c l (q + 3) ∧ Fr [r] w w' := by
  go_enter Tryd.func44, Tryd.ntmps44
  go_wp2_with fail
  refine (rd_pick w r A n c l q 12 h (by omega) (by omega) (by omega)).mono ?_
  rintro e w1 ⟨x, rfl, hx, hD1, hf1⟩
  by_cases h0 : x = 0
  · have hb : ((x : Int) == 0) = true := by simp; omega
    clear h0
    go_wp2_with fail
    refine (rd_pick w1 r A n c l _ 256 hD1 (by omega) (by omega) (by omega)).mono ?_
    rintro e w2 ⟨y, rfl, hy, hD2, hf2⟩
    go_wp2_with fail
    refine (rd_pick w2 r A n c l _ 256 hD2 (by omega) (by omega) (by omega)).mono ?_
    rintro e w3 ⟨z, rfl, hz, hD3, hf3⟩
    go_wp2_with fail
    go_ret
    exact ⟨y * 16 + z, ret_int (by simp; try omega), by omega, hD3.mono (by omega), (hf1.trans hf2).trans hf3⟩
  · have hb : ((x : Int) == 0) = false := by simp; omega
    clear h0
    go_wp2_with fail
    refine (rd_pick w1 r A n c l _ 6 hD1 (by omega) (by omega) (by omega)).mono ?_
    rintro e w2 ⟨y, rfl, hy, hD2, hf2⟩
    go_wp2_with fail
    go_ret
    exact ⟨y, ret_int (by simp; try omega), by omega, hD2.mono (by omega), hf1.trans hf2⟩

theorem info16 : (Tryd.prog.info? 49).map (fun i => (i.zero, i.size, i.bytes)) = some (some (.int .u16 0), 1, 2) := by kernel_rfl

/-- The loop of sizes: k more rounds. -/
def SizesRel (w : World) (r : Nat) (A : Option Addr) (n c : Nat) (l : List UInt8) (q : Nat) (v i : Value) (wr : World) : Prop :=
  ∃ (k : Nat) (zs : List Nat), k ≤ 6 ∧ i = .int .i64 (k : Int) ∧ zs.length + k ≤ 6 ∧ wr.ownsRow w.heap.size 49 1 v zs.length (zs.map fun z : Nat => Value.int .u16 (z : Int)) ∧ (∀ z ∈ zs, z ≤ 4335) ∧ Dr wr r A n c l (q + 3 * (6 - k)) ∧ Fr [r] w wr

theorem own_ne_r {w : World} {r : Nat} {A : Option Addr} {n c : Nat} {l : List UInt8} {q base : Nat} {e : TypeId} {size k : Nat} {v : Value} {xs : List Value} (h : Dr w r A n c l q) (ho : w.ownsRow base e size v k xs) (he : e ≠ 72) : ∀ x, v.ownBlock = some x → x ≠ r := by
  obtain ⟨p, _, hk⟩ := h.blk
  exact own_ne_blk ho hk he

/-- A reader behind an append to a row that lies above its source. -/
theorem Dr.app {w w2 w' : World} {r : Nat} {A : Option Addr} {n c : Nat} {l : List UInt8} {q : Nat} {e : TypeId} {size k : Nat} {v : Value} {xs : List Value} {o : Obj} (h : Dr w2 r A n c l q) (ho : w2.ownsRow w.heap.size e size v k xs) (hA : 0 < n → ∀ ad, A = some ad → ad.block < w.heap.size) (he : e ≠ 72)
    (hg : (w2.alloc o).grownBy w' v.ownBlock) : Dr w' r A n c l q := by
  have hr := own_ne_r (h.alloc o) (ho.alloc o) he
  have hf := Fr.of_grown hg
  have h1 := h.alloc o
  obtain ⟨p, hp, hk⟩ := h1.blk
  refine ⟨⟨p, hp, hk.fr hf ?_⟩, ⟨h1.sl.1, fun j hj => ?_⟩, h.len_le, h.ne⟩
  · intro hm
    simp only [Option.mem_toList] at hm
    exact hr r hm rfl
  · obtain ⟨ad, e', hc⟩ := h1.sl.2 j hj
    refine ⟨ad, e', ?_⟩
    have hlt := block_lt_of_cell hc
    have hn := h1.sl.1
    have := hA (by omega) ad e'
    rw [hf.cell hlt]
    · exact hc
    · rw [block_add]
      intro hm
      simp only [Option.mem_toList] at hm
      have := ((ho.alloc o).lt _ hm).1
      omega

theorem Dr.made {w : World} {A : Option Addr} {n c : Nat} {l : List UInt8} (hS : Sl w A n l) (hn : n ≤ 1048576) : Dr (w.alloc (.cells #[.slice A n c, .int .i64 0] 72)) w.heap.size A n c l 0 :=
  ⟨⟨0, Nat.le_refl _, Blk.new w _ _⟩, hS.fr ((Fr.refl [] w).alloc _) (by simp), hn, fun h0 ad e => by have := hS.old h0 ad e; omega⟩

end Go.Proofs.YtgniidnbpkhmcaaDoor
