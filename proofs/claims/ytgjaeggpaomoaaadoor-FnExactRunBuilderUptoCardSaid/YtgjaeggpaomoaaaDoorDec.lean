/- The reference's decoding of a code point. -/
import Derived.Test.YtgjaeggpaomoaaaDoorNums
import Derived.Test.YtgjaeggpaomoaaaDoorDecP
namespace Go.Proofs.YtgjaeggpaomoaaaDoor
open Go.RowKit
set_option linter.unusedVariables false
set_option linter.unusedSectionVars false
attribute [local go_sem ↓] Go.wp_at_zero Go.wp_at_succ

theorem str_at (l : List UInt8) (k : Nat) (h : k < l.length) (hsz : k < (⟨l.toArray⟩ : ByteArray).size) : ((⟨l.toArray⟩ : ByteArray)[k]).toNat = byteAt l k := by
  rw [byteAt_get l k h]
  rfl

theorem spec_within (l : List UInt8) (k lo hi : Nat) (w : World) (hl : l.length ≤ 9223372036854775807) :
    Calls Tryd.prog 96 #[.string ⟨l.toArray⟩, .int .i64 (k : Int), .int .u8 (lo : Int), .int .u8 (hi : Int)] w fun e w' => e = .returned (.bool (decide (k < l.length ∧ lo ≤ byteAt l k ∧ byteAt l k ≤ hi))) ∧ w = w' := by
  by_cases h1 : k < l.length
  · have hsz : k < (⟨l.toArray⟩ : ByteArray).size := by rw [str_size]; exact h1
    have hb := str_at l k h1 hsz
    rw [← hb]
    clear hb
    by_cases h2 : lo ≤ ((⟨l.toArray⟩ : ByteArray)[k]).toNat
    · by_cases h3 : ((⟨l.toArray⟩ : ByteArray)[k]).toNat ≤ hi
      · have hr : decide (k < l.length ∧ lo ≤ ((⟨l.toArray⟩ : ByteArray)[k]).toNat ∧ ((⟨l.toArray⟩ : ByteArray)[k]).toNat ≤ hi) = true := by simp [h1, h2, h3]
        rw [hr]
        clear hr
        go_enter Tryd.func96, Tryd.ntmps96
        go_wp2_with fail
        go_ret
        exact ⟨rfl, rfl⟩
      · have hr : decide (k < l.length ∧ lo ≤ ((⟨l.toArray⟩ : ByteArray)[k]).toNat ∧ ((⟨l.toArray⟩ : ByteArray)[k]).toNat ≤ hi) = false := by simp [h3]
        rw [hr]
        clear hr
        go_enter Tryd.func96, Tryd.ntmps96
        go_wp2_with fail
        go_ret
        exact ⟨rfl, rfl⟩
    · have hr : decide (k < l.length ∧ lo ≤ ((⟨l.toArray⟩ : ByteArray)[k]).toNat ∧ ((⟨l.toArray⟩ : ByteArray)[k]).toNat ≤ hi) = false := by simp [h2]
      rw [hr]
      clear hr
      go_enter Tryd.func96, Tryd.ntmps96
      go_wp2_with fail
      go_ret
      exact ⟨rfl, rfl⟩
  · have hr : decide (k < l.length ∧ lo ≤ byteAt l k ∧ byteAt l k ≤ hi) = false := by simp [h1]
    rw [hr]
    clear hr
    go_enter Tryd.func96, Tryd.ntmps96
    go_wp2_with fail
    go_ret
    exact ⟨rfl, rfl⟩

/-- The classes of first bytes. -/
def secLo (c : Nat) : Nat := if 194 ≤ c ∧ c ≤ 223 then 128 else if c = 224 then 160 else if c = 237 then 128 else if 225 ≤ c ∧ c ≤ 239 then 128 else if c = 240 then 144 else if 241 ≤ c ∧ c ≤ 243 then 128 else if c = 244 then 128 else 0
def secHi (c : Nat) : Nat := if 194 ≤ c ∧ c ≤ 223 then 191 else if c = 224 then 191 else if c = 237 then 159 else if 225 ≤ c ∧ c ≤ 239 then 191 else if c = 240 then 191 else if 241 ≤ c ∧ c ≤ 243 then 191 else if c = 244 then 143 else 0
def secN (c : Nat) : Nat := if 194 ≤ c ∧ c ≤ 223 then 2 else if c = 224 then 3 else if c = 237 then 3 else if 225 ≤ c ∧ c ≤ 239 then 3 else if c = 240 then 4 else if 241 ≤ c ∧ c ≤ 243 then 4 else if c = 244 then 4 else 0

set_option maxHeartbeats 1600000 in
theorem spec_second (c : Nat) (w : World) (hc : c < 256) :
    Calls Tryd.prog 95 #[.int .u8 (c : Int)] w fun e w' => e = .returned (.tuple #[.int .u8 (secLo c : Int), .int .u8 (secHi c : Int), .int .i64 (secN c : Int)]) ∧ w = w' := by
  by_cases c1 : 194 ≤ c ∧ c ≤ 223
  · rw [show secLo c = 128 by simp [secLo, c1], show secHi c = 191 by simp [secHi, c1], show secN c = 2 by simp [secN, c1]]
    obtain ⟨d1, d2⟩ := c1
    go_enter Tryd.func95, Tryd.ntmps95
    go_wp2_with fail
    go_ret3
    exact ⟨rfl, rfl⟩
  have q1 : (decide ((194 : Int) ≤ (c : Int)) && decide ((c : Int) ≤ 223)) = false := by simp; omega
  by_cases c2 : c = 224
  · subst c2
    go_enter Tryd.func95, Tryd.ntmps95
    go_wp2_with fail
    go_ret3
    exact ⟨rfl, rfl⟩
  by_cases c3 : c = 237
  · subst c3
    go_enter Tryd.func95, Tryd.ntmps95
    go_wp2_with fail
    go_ret3
    exact ⟨rfl, rfl⟩
  by_cases c5 : c = 240
  · subst c5
    go_enter Tryd.func95, Tryd.ntmps95
    go_wp2_with fail
    go_ret3
    exact ⟨rfl, rfl⟩
  by_cases c7 : c = 244
  · subst c7
    go_enter Tryd.func95, Tryd.ntmps95
    go_wp2_with fail
    go_ret3
    exact ⟨rfl, rfl⟩
  by_cases c0 : c < 194
  · rw [show secLo c = 0 by simp only [secLo]; repeat rw [if_neg (by omega)], show secHi c = 0 by simp only [secHi]; repeat rw [if_neg (by omega)], show secN c = 0 by simp only [secN]; repeat rw [if_neg (by omega)]]
    have p1 : decide ((194 : Int) ≤ (c : Int)) = false := by simp; omega
    have p2 : ((c : Int) == 224) = false := by simp; omega
    have p3 : ((c : Int) == 237) = false := by simp; omega
    have p4 : decide ((225 : Int) ≤ (c : Int)) = false := by simp; omega
    have p5 : ((c : Int) == 240) = false := by simp; omega
    have p6 : decide ((241 : Int) ≤ (c : Int)) = false := by simp; omega
    have p7 : ((c : Int) == 244) = false := by simp; omega
    clear q1 c1 c2 c3 c5 c7 c0
    go_enter Tryd.func95, Tryd.ntmps95
    go_wp2_with fail
    go_ret3
    exact ⟨rfl, rfl⟩
  by_cases c4 : c ≤ 239
  · rw [show secLo c = 128 by simp only [secLo]; rw [if_neg (by omega), if_neg (by omega), if_neg (by omega), if_pos (by omega)], show secHi c = 191 by simp only [secHi]; rw [if_neg (by omega), if_neg (by omega), if_neg (by omega), if_pos (by omega)], show secN c = 3 by simp only [secN]; rw [if_neg (by omega), if_neg (by omega), if_neg (by omega), if_pos (by omega)]]
    have p1 : decide ((194 : Int) ≤ (c : Int)) = true := by simp; omega
    have p1' : decide ((c : Int) ≤ 223) = false := by simp; omega
    have p2 : ((c : Int) == 224) = false := by simp; omega
    have p3 : ((c : Int) == 237) = false := by simp; omega
    have p4 : decide ((225 : Int) ≤ (c : Int)) = true := by simp; omega
    have p4' : decide ((c : Int) ≤ 239) = true := by simp; omega
    clear q1 c1 c2 c3 c5 c7 c0 c4
    go_enter Tryd.func95, Tryd.ntmps95
    go_wp2_with fail
    go_ret3
    exact ⟨rfl, rfl⟩
  by_cases c6 : c ≤ 243
  · rw [show secLo c = 128 by simp only [secLo]; rw [if_neg (by omega), if_neg (by omega), if_neg (by omega), if_neg (by omega), if_neg (by omega), if_pos (by omega)], show secHi c = 191 by simp only [secHi]; rw [if_neg (by omega), if_neg (by omega), if_neg (by omega), if_neg (by omega), if_neg (by omega), if_pos (by omega)], show secN c = 4 by simp only [secN]; rw [if_neg (by omega), if_neg (by omega), if_neg (by omega), if_neg (by omega), if_neg (by omega), if_pos (by omega)]]
    have p1 : decide ((194 : Int) ≤ (c : Int)) = true := by simp; omega
    have p1' : decide ((c : Int) ≤ 223) = false := by simp; omega
    have p2 : ((c : Int) == 224) = false := by simp; omega
    have p3 : ((c : Int) == 237) = false := by simp; omega
    have p4 : decide ((225 : Int) ≤ (c : Int)) = true := by simp; omega
    have p4' : decide ((c : Int) ≤ 239) = false := by simp; omega
    have p5 : ((c : Int) == 240) = false := by simp; omega
    have p6 : decide ((241 : Int) ≤ (c : Int)) = true := by simp; omega
    have p6' : decide ((c : Int) ≤ 243) = true := by simp; omega
    clear q1 c1 c2 c3 c5 c7 c0 c4 c6
    go_enter Tryd.func95, Tryd.ntmps95
    go_wp2_with fail
    go_ret3
    exact ⟨rfl, rfl⟩
  · rw [show secLo c = 0 by simp only [secLo]; repeat rw [if_neg (by omega)], show secHi c = 0 by simp only [secHi]; repeat rw [if_neg (by omega)], show secN c = 0 by simp only [secN]; repeat rw [if_neg (by omega)]]
    have p1 : decide ((194 : Int) ≤ (c : Int)) = true := by simp; omega
    have p1' : decide ((c : Int) ≤ 223) = false := by simp; omega
    have p2 : ((c : Int) == 224) = false := by simp; omega
    have p3 : ((c : Int) == 237) = false := by simp; omega
    have p4 : decide ((225 : Int) ≤ (c : Int)) = true := by simp; omega
    have p4' : decide ((c : Int) ≤ 239) = false := by simp; omega
    have p5 : ((c : Int) == 240) = false := by simp; omega
    have p6 : decide ((241 : Int) ≤ (c : Int)) = true := by simp; omega
    have p6' : decide ((c : Int) ≤ 243) = false := by simp; omega
    have p7 : ((c : Int) == 244) = false := by simp; omega
    clear q1 c1 c2 c3 c5 c7 c0 c4 c6
    go_enter Tryd.func95, Tryd.ntmps95
    go_wp2_with fail
    go_ret3
    exact ⟨rfl, rfl⟩

/-- What the second loop reckons. -/
def accV (l : List UInt8) (base : Nat) : Nat → Int
  | 0 => (byteAt l 0 : Int) - base
  | k + 1 => accV l base k * 64 + (byteAt l (k + 1) : Int) - 128

/-- Decode of a first byte that begins n bytes. -/
def DecPost (l : List UInt8) (w : World) (e : Ending) (w' : World) : Prop := ∃ (r k : Nat), e = .returned (.tuple #[.int .i32 (r : Int), .int .i64 (k : Int)]) ∧ Hid ((r, k) = dec l) ∧ w = w'

theorem sec_two (c : Nat) (h : secN c = 2) : 194 ≤ c ∧ c ≤ 223 := by
  unfold secN at h
  repeat' split at h
  all_goals omega
theorem sec_three (c : Nat) (h : secN c = 3) : 224 ≤ c ∧ c ≤ 239 := by
  unfold secN at h
  repeat' split at h
  all_goals omega
theorem sec_four (c : Nat) (h : secN c = 4) : 240 ≤ c ∧ c ≤ 244 := by
  unfold secN at h
  repeat' split at h
  all_goals omega
theorem sec_lo (c : Nat) (h : secN c ≠ 0) : 128 ≤ secLo c ∧ secHi c ≤ 191 := by
  unfold secN at h
  unfold secLo secHi
  repeat' split
  all_goals first | omega | (exfalso; apply h; repeat rw [if_neg (by assumption)])
theorem sec_cases (c : Nat) : secN c = 0 ∨ secN c = 2 ∨ secN c = 3 ∨ secN c = 4 := by
  unfold secN
  repeat' split
  all_goals simp
set_option maxHeartbeats 4000000 in
theorem dec_slow (l : List UInt8) (h0 : 0 < l.length) (h : secN (byteAt l 0) ≠ 0) : dec l = Lib.slowN l.length (byteAt l 0) (byteAt l 1) (byteAt l 2) (byteAt l 3) (secN (byteAt l 0)) (secLo (byteAt l 0)) (secHi (byteAt l 0)) := by
  have h1 := byteAt_lt l 1
  have h2 := byteAt_lt l 2
  have h3 := byteAt_lt l 3
  unfold dec
  generalize byteAt l 0 = c at *
  generalize byteAt l 1 = b1 at *
  generalize byteAt l 2 = b2 at *
  generalize byteAt l 3 = b3 at *
  unfold secN at h
  unfold secN secLo secHi
  by_cases c1 : 194 ≤ c ∧ c ≤ 223
  · simp only [c1, and_self, if_true]
    exact (Lib.slow_C2 _ _ _ _ _ h0 h1 h2 h3 (by omega)).symm
  by_cases c2 : c = 224
  · subst c2
    exact (Lib.slow_E0 _ _ _ _ _ h0 h1 h2 h3 rfl).symm
  by_cases c3 : c = 237
  · subst c3
    exact (Lib.slow_ED _ _ _ _ _ h0 h1 h2 h3 rfl).symm
  by_cases c4 : 225 ≤ c ∧ c ≤ 239
  · simp only [c1, c2, c3, c4, and_self, if_true, if_false]
    exact (Lib.slow_E1 _ _ _ _ _ h0 h1 h2 h3 (by omega)).symm
  by_cases c5 : c = 240
  · subst c5
    exact (Lib.slow_F0 _ _ _ _ _ h0 h1 h2 h3 rfl).symm
  by_cases c6 : 241 ≤ c ∧ c ≤ 243
  · simp only [c1, c2, c3, c4, c5, c6, and_self, if_true, if_false]
    exact (Lib.slow_F1 _ _ _ _ _ h0 h1 h2 h3 (by omega)).symm
  by_cases c7 : c = 244
  · subst c7
    exact (Lib.slow_F4 _ _ _ _ _ h0 h1 h2 h3 rfl).symm
  · exact absurd (by simp only [c1, c2, c3, c4, c5, c6, c7, if_false]) h
theorem dec_bad (l : List UInt8) (h0 : 0 < l.length) (hg : 128 ≤ byteAt l 0) (h : secN (byteAt l 0) = 0) : dec l = (65533, 1) := by
  have h1 := byteAt_lt l 1
  have h2 := byteAt_lt l 2
  have h3 := byteAt_lt l 3
  have hb := byteAt_lt l 0
  have hc : byteAt l 0 < 194 ∨ 244 < byteAt l 0 := by
    unfold secN at h
    repeat' split at h
    all_goals omega
  unfold dec Lib.decodeN
  generalize byteAt l 0 = c at *
  generalize byteAt l 1 = b1 at *
  generalize byteAt l 2 = b2 at *
  generalize byteAt l 3 = b3 at *
  repeat' split
  all_goals first | rfl | (exfalso; omega)

section
variable (l : List UInt8) (w : World) (h0 : 0 < l.length) (hl : l.length ≤ 9223372036854775807)
include h0 hl

set_option maxHeartbeats 1600000 in
set_option maxRecDepth 100000 in
theorem Decode_bad (hs : secN (byteAt l 0) = 0) (hg : 128 ≤ byteAt l 0) : Calls Tryd.prog 87 #[.string ⟨l.toArray⟩] w fun e w' => e = .returned (.tuple #[.int .i32 65533, .int .i64 1]) ∧ w = w' := by
  have hsz : 0 < (⟨l.toArray⟩ : ByteArray).size := by rw [str_size]; exact h0
  have hb := str_at l 0 h0 hsz
  have hsec := spec_second ((⟨l.toArray⟩ : ByteArray)[0]).toNat w (by rw [hb]; exact byteAt_lt l 0)
  have hz : secN ((⟨l.toArray⟩ : ByteArray)[0]).toNat = 0 := by rw [hb]; exact hs
  rw [hz] at hsec
  rw [← hb] at hg
  generalize secLo ((⟨l.toArray⟩ : ByteArray)[0]).toNat = lo at hsec
  generalize secHi ((⟨l.toArray⟩ : ByteArray)[0]).toNat = hi at hsec
  have HS := Lib.hid hsec
  have hng : ¬ ((⟨l.toArray⟩ : ByteArray)[0]).toNat < 128 := by omega
  clear hsec hz hb hs hg
  go_enter Tryd.func87, Tryd.ntmps87
  go_wp2_with fail
  refine HS.out.mono ?_
  rintro e w1 ⟨rfl, rfl⟩
  go_wp2_with fail
  go_ret2
  exact ⟨rfl, rfl⟩

set_option maxHeartbeats 4000000 in
set_option maxRecDepth 100000 in
theorem Decode_two (hs : secN (byteAt l 0) = 2) : Calls Tryd.prog 87 #[.string ⟨l.toArray⟩] w (DecPost l w) := by
  have hsz : 0 < (⟨l.toArray⟩ : ByteArray).size := by rw [str_size]; exact h0
  have hb := str_at l 0 h0 hsz
  have hcls := sec_two _ hs
  have hlh := sec_lo (byteAt l 0) (by rw [hs]; decide)
  have hdec := dec_slow l h0 (by rw [hs]; decide)
  rw [hs] at hdec
  have hsec := spec_second ((⟨l.toArray⟩ : ByteArray)[0]).toNat w (by rw [hb]; exact byteAt_lt l 0)
  rw [show secN ((⟨l.toArray⟩ : ByteArray)[0]).toNat = 2 by rw [hb]; exact hs, show secLo ((⟨l.toArray⟩ : ByteArray)[0]).toNat = secLo (byteAt l 0) by rw [hb], show secHi ((⟨l.toArray⟩ : ByteArray)[0]).toNat = secHi (byteAt l 0) by rw [hb]] at hsec
  generalize secLo (byteAt l 0) = lo at *
  generalize secHi (byteAt l 0) = hi at *
  have g1 : 192 ≤ ((⟨l.toArray⟩ : ByteArray)[0]).toNat := by rw [hb]; omega
  have g2 : ((⟨l.toArray⟩ : ByteArray)[0]).toNat < 192 + 32 := by rw [hb]; omega
  have HB := Lib.hid hb
  have HD := Lib.hid hdec
  have HC := Lib.hid hcls
  have HS := Lib.hid hsec
  have hng : ¬ ((⟨l.toArray⟩ : ByteArray)[0]).toNat < 128 := by omega
  have hw1 := Lib.hid (spec_within l 1 lo hi w hl)
  clear hsec hb hs hdec hcls
  go_enter Tryd.func87, Tryd.ntmps87
  go_wp2_with fail
  refine HS.out.mono ?_
  rintro e w1 ⟨rfl, rfl⟩
  go_wp2_with fail
  refine hw1.out.mono ?_
  rintro e w1 ⟨rfl, rfl⟩
  by_cases hq : 1 < l.length ∧ lo ≤ byteAt l 1 ∧ byteAt l 1 ≤ hi
  · have hqt : decide (1 < l.length ∧ lo ≤ byteAt l 1 ∧ byteAt l 1 ≤ hi) = true := by simpa using hq
    rw [hqt]
    have HQ := Lib.hid hq
    clear hqt hq
    go_wp2_with fail
    go_loop [7] (fun i => ∃ k : Nat, 2 ≤ k ∧ k ≤ 2 ∧ i = .int .i64 (k : Int) ∧ Hid (∀ j, 2 ≤ j → j < k → j < l.length ∧ 128 ≤ byteAt l j ∧ byteAt l j ≤ 191)) (fun i => 2 - (intOf i).toNat)
    case atStart => exact ⟨2, by omega, by omega, rfl, Lib.hid (fun j h1 h2 => by omega)⟩
    case round =>
      obtain ⟨k, hk2, hkn, rfl, HK⟩ := hrel
      by_cases hlt : k < 2
      · exfalso
        omega
      · obtain rfl : k = 2 := by omega
        go_wp2_with fail
        go_loop [8, 9] (fun v i => ∃ k r : Nat, 1 ≤ k ∧ k ≤ 2 ∧ i = .int .i64 (k : Int) ∧ v = .int .i32 (r : Int) ∧ (k = 1 → r < 32) ∧ (k = 2 → r < 2048) ∧ (k = 3 → r < 131072) ∧ Hid ((r : Int) = accV l 192 (k - 1))) (fun _ i => 2 - (intOf i).toNat)
        case atStart =>
          refine ⟨1, ((⟨l.toArray⟩ : ByteArray)[0]).toNat - 192, by omega, by omega, rfl, vint (by omega), by omega, by omega, by omega, ?_⟩
          show _ = _ - _
          have := HB.out
          omega
        case round =>
          obtain ⟨k, r, hk1, hkn2, rfl, rfl, r1, r2, r3, HR⟩ := hrel
          by_cases hlt2 : k < 2
          · obtain ⟨hkl, hx1, hx2⟩ : k < l.length ∧ 128 ≤ byteAt l k ∧ byteAt l k ≤ 191 := by
              by_cases hk1' : k = 1
              · have q1 := HQ.out
                subst hk1'
                exact ⟨q1.1, by omega, by omega⟩
              · exact HK.out k (by omega) hlt2
            have hsk : k < (⟨l.toArray⟩ : ByteArray).size := by rw [str_size]; exact hkl
            have hbk := str_at l k hkl hsk
            rw [← hbk] at hx1 hx2
            have HBK := Lib.hid hbk
            have hr3 : r < 131072 := by
              rcases (show k = 1 ∨ k = 2 ∨ k = 3 by omega) with rfl | rfl | rfl
              · have := r1 rfl; omega
              · have := r2 rfl; omega
              · exact r3 rfl
            have R1 := Lib.hid r1
            have R2 := Lib.hid r2
            clear hbk r1 r2 r3
            go_wp2_with fail
            go_round
            case rel =>
              have r1 := R1.out
              have r2 := R2.out
              refine ⟨k + 1, r * 64 + ((⟨l.toArray⟩ : ByteArray)[k]).toNat - 128, by omega, by omega, by go_num, vint (by omega), by omega, by omega, by omega, ?_⟩
              show _ = _
              obtain ⟨k', rfl⟩ : ∃ k', k = k' + 1 := ⟨k - 1, by omega⟩
              have h2 := HBK.out
              have h3 := HR.out
              simp only [Nat.add_sub_cancel] at h3 ⊢
              simp only [accV]
              rw [← h3, ← h2]
              omega
            case measure => simp [intOf]; omega
          · obtain rfl : k = 2 := by omega
            clear r1 r2 r3
            go_wp2_with fail
            go_ret2
            refine ⟨r, 2, rfl, ?_, rfl⟩
            show _ = _
            have q1 := HQ.out
            have q3 := HK.out
            have h3 := HR.out
            have h4 := HC.out
            skip
            rw [HD.out]
            simp only [accV, Nat.reduceSub, Nat.reduceAdd] at h3
            unfold Lib.slowN
            repeat' split
            all_goals first | (exfalso; omega) | (apply Prod.ext <;> simp only <;> omega)
  · have hqt : decide (1 < l.length ∧ lo ≤ byteAt l 1 ∧ byteAt l 1 ≤ hi) = false := by simpa using hq
    rw [hqt]
    have HQ := Lib.hid hq
    clear hqt hq
    go_wp2_with fail
    go_ret2
    refine ⟨65533, 1, rfl, ?_, rfl⟩
    show _ = _
    have q1 := HQ.out
    rw [HD.out]
    unfold Lib.slowN
    repeat' split
    all_goals first | rfl | (exfalso; omega)

set_option maxHeartbeats 4000000 in
set_option maxRecDepth 100000 in
theorem Decode_three (hs : secN (byteAt l 0) = 3) : Calls Tryd.prog 87 #[.string ⟨l.toArray⟩] w (DecPost l w) := by
  have hsz : 0 < (⟨l.toArray⟩ : ByteArray).size := by rw [str_size]; exact h0
  have hb := str_at l 0 h0 hsz
  have hcls := sec_three _ hs
  have hlh := sec_lo (byteAt l 0) (by rw [hs]; decide)
  have hdec := dec_slow l h0 (by rw [hs]; decide)
  rw [hs] at hdec
  have hsec := spec_second ((⟨l.toArray⟩ : ByteArray)[0]).toNat w (by rw [hb]; exact byteAt_lt l 0)
  rw [show secN ((⟨l.toArray⟩ : ByteArray)[0]).toNat = 3 by rw [hb]; exact hs, show secLo ((⟨l.toArray⟩ : ByteArray)[0]).toNat = secLo (byteAt l 0) by rw [hb], show secHi ((⟨l.toArray⟩ : ByteArray)[0]).toNat = secHi (byteAt l 0) by rw [hb]] at hsec
  generalize secLo (byteAt l 0) = lo at *
  generalize secHi (byteAt l 0) = hi at *
  have g1 : 224 ≤ ((⟨l.toArray⟩ : ByteArray)[0]).toNat := by rw [hb]; omega
  have g2 : ((⟨l.toArray⟩ : ByteArray)[0]).toNat < 224 + 32 := by rw [hb]; omega
  have HB := Lib.hid hb
  have HD := Lib.hid hdec
  have HC := Lib.hid hcls
  have HS := Lib.hid hsec
  have hng : ¬ ((⟨l.toArray⟩ : ByteArray)[0]).toNat < 128 := by omega
  have hw1 := Lib.hid (spec_within l 1 lo hi w hl)
  clear hsec hb hs hdec hcls
  go_enter Tryd.func87, Tryd.ntmps87
  go_wp2_with fail
  refine HS.out.mono ?_
  rintro e w1 ⟨rfl, rfl⟩
  go_wp2_with fail
  refine hw1.out.mono ?_
  rintro e w1 ⟨rfl, rfl⟩
  by_cases hq : 1 < l.length ∧ lo ≤ byteAt l 1 ∧ byteAt l 1 ≤ hi
  · have hqt : decide (1 < l.length ∧ lo ≤ byteAt l 1 ∧ byteAt l 1 ≤ hi) = true := by simpa using hq
    rw [hqt]
    have HQ := Lib.hid hq
    clear hqt hq
    go_wp2_with fail
    go_loop [7] (fun i => ∃ k : Nat, 2 ≤ k ∧ k ≤ 3 ∧ i = .int .i64 (k : Int) ∧ Hid (∀ j, 2 ≤ j → j < k → j < l.length ∧ 128 ≤ byteAt l j ∧ byteAt l j ≤ 191)) (fun i => 3 - (intOf i).toNat)
    case atStart => exact ⟨2, by omega, by omega, rfl, Lib.hid (fun j h1 h2 => by omega)⟩
    case round =>
      obtain ⟨k, hk2, hkn, rfl, HK⟩ := hrel
      by_cases hlt : k < 3
      · have hwk := Lib.hid (spec_within l k 128 191 w hl)
        go_wp2_with fail
        refine hwk.out.mono ?_
        rintro e w1 ⟨rfl, rfl⟩
        by_cases hq : k < l.length ∧ 128 ≤ byteAt l k ∧ byteAt l k ≤ 191
        · have hqt : decide (k < l.length ∧ 128 ≤ byteAt l k ∧ byteAt l k ≤ 191) = true := by simpa using hq
          rw [hqt]
          have HQ2 := Lib.hid hq
          clear hqt hq
          go_wp2_with fail
          go_round
          case rel =>
            refine ⟨k + 1, by omega, by omega, by go_num, Lib.hid (fun j h1 h2 => ?_)⟩
            by_cases hj : j = k
            · subst hj; exact HQ2.out
            · exact HK.out j h1 (by omega)
          case measure => simp [intOf]; omega
        · have hqt : decide (k < l.length ∧ 128 ≤ byteAt l k ∧ byteAt l k ≤ 191) = false := by simpa using hq
          rw [hqt]
          have HQ2 := Lib.hid hq
          clear hqt hq
          go_wp2_with fail
          go_ret2
          refine ⟨65533, 1, rfl, ?_, rfl⟩
          show _ = _
          have q1 := HQ.out
          have q2 := HQ2.out
          have q3 := HK.out
          rw [HD.out]
          unfold Lib.slowN
          rcases (show k = 2 ∨ k = 3 by omega) with rfl | rfl
          · repeat' split
            all_goals first | rfl | (exfalso; omega)
          · have q4 := q3 2 (by omega) (by omega)
            repeat' split
            all_goals first | rfl | (exfalso; omega)
      · obtain rfl : k = 3 := by omega
        go_wp2_with fail
        go_loop [8, 9] (fun v i => ∃ k r : Nat, 1 ≤ k ∧ k ≤ 3 ∧ i = .int .i64 (k : Int) ∧ v = .int .i32 (r : Int) ∧ (k = 1 → r < 32) ∧ (k = 2 → r < 2048) ∧ (k = 3 → r < 131072) ∧ Hid ((r : Int) = accV l 224 (k - 1))) (fun _ i => 3 - (intOf i).toNat)
        case atStart =>
          refine ⟨1, ((⟨l.toArray⟩ : ByteArray)[0]).toNat - 224, by omega, by omega, rfl, vint (by omega), by omega, by omega, by omega, ?_⟩
          show _ = _ - _
          have := HB.out
          omega
        case round =>
          obtain ⟨k, r, hk1, hkn2, rfl, rfl, r1, r2, r3, HR⟩ := hrel
          by_cases hlt2 : k < 3
          · obtain ⟨hkl, hx1, hx2⟩ : k < l.length ∧ 128 ≤ byteAt l k ∧ byteAt l k ≤ 191 := by
              by_cases hk1' : k = 1
              · have q1 := HQ.out
                subst hk1'
                exact ⟨q1.1, by omega, by omega⟩
              · exact HK.out k (by omega) hlt2
            have hsk : k < (⟨l.toArray⟩ : ByteArray).size := by rw [str_size]; exact hkl
            have hbk := str_at l k hkl hsk
            rw [← hbk] at hx1 hx2
            have HBK := Lib.hid hbk
            have hr3 : r < 131072 := by
              rcases (show k = 1 ∨ k = 2 ∨ k = 3 by omega) with rfl | rfl | rfl
              · have := r1 rfl; omega
              · have := r2 rfl; omega
              · exact r3 rfl
            have R1 := Lib.hid r1
            have R2 := Lib.hid r2
            clear hbk r1 r2 r3
            go_wp2_with fail
            go_round
            case rel =>
              have r1 := R1.out
              have r2 := R2.out
              refine ⟨k + 1, r * 64 + ((⟨l.toArray⟩ : ByteArray)[k]).toNat - 128, by omega, by omega, by go_num, vint (by omega), by omega, by omega, by omega, ?_⟩
              show _ = _
              obtain ⟨k', rfl⟩ : ∃ k', k = k' + 1 := ⟨k - 1, by omega⟩
              have h2 := HBK.out
              have h3 := HR.out
              simp only [Nat.add_sub_cancel] at h3 ⊢
              simp only [accV]
              rw [← h3, ← h2]
              omega
            case measure => simp [intOf]; omega
          · obtain rfl : k = 3 := by omega
            clear r1 r2 r3
            go_wp2_with fail
            go_ret2
            refine ⟨r, 3, rfl, ?_, rfl⟩
            show _ = _
            have q1 := HQ.out
            have q3 := HK.out
            have h3 := HR.out
            have h4 := HC.out
            have q4 := q3 2 (by omega) (by omega)
            rw [HD.out]
            simp only [accV, Nat.reduceSub, Nat.reduceAdd] at h3
            unfold Lib.slowN
            repeat' split
            all_goals first | (exfalso; omega) | (apply Prod.ext <;> simp only <;> omega)
  · have hqt : decide (1 < l.length ∧ lo ≤ byteAt l 1 ∧ byteAt l 1 ≤ hi) = false := by simpa using hq
    rw [hqt]
    have HQ := Lib.hid hq
    clear hqt hq
    go_wp2_with fail
    go_ret2
    refine ⟨65533, 1, rfl, ?_, rfl⟩
    show _ = _
    have q1 := HQ.out
    rw [HD.out]
    unfold Lib.slowN
    repeat' split
    all_goals first | rfl | (exfalso; omega)

set_option maxHeartbeats 4000000 in
set_option maxRecDepth 100000 in
theorem Decode_four (hs : secN (byteAt l 0) = 4) : Calls Tryd.prog 87 #[.string ⟨l.toArray⟩] w (DecPost l w) := by
  have hsz : 0 < (⟨l.toArray⟩ : ByteArray).size := by rw [str_size]; exact h0
  have hb := str_at l 0 h0 hsz
  have hcls := sec_four _ hs
  have hlh := sec_lo (byteAt l 0) (by rw [hs]; decide)
  have hdec := dec_slow l h0 (by rw [hs]; decide)
  rw [hs] at hdec
  have hsec := spec_second ((⟨l.toArray⟩ : ByteArray)[0]).toNat w (by rw [hb]; exact byteAt_lt l 0)
  rw [show secN ((⟨l.toArray⟩ : ByteArray)[0]).toNat = 4 by rw [hb]; exact hs, show secLo ((⟨l.toArray⟩ : ByteArray)[0]).toNat = secLo (byteAt l 0) by rw [hb], show secHi ((⟨l.toArray⟩ : ByteArray)[0]).toNat = secHi (byteAt l 0) by rw [hb]] at hsec
  generalize secLo (byteAt l 0) = lo at *
  generalize secHi (byteAt l 0) = hi at *
  have g1 : 240 ≤ ((⟨l.toArray⟩ : ByteArray)[0]).toNat := by rw [hb]; omega
  have g2 : ((⟨l.toArray⟩ : ByteArray)[0]).toNat < 240 + 32 := by rw [hb]; omega
  have HB := Lib.hid hb
  have HD := Lib.hid hdec
  have HC := Lib.hid hcls
  have HS := Lib.hid hsec
  have hng : ¬ ((⟨l.toArray⟩ : ByteArray)[0]).toNat < 128 := by omega
  have hw1 := Lib.hid (spec_within l 1 lo hi w hl)
  clear hsec hb hs hdec hcls
  go_enter Tryd.func87, Tryd.ntmps87
  go_wp2_with fail
  refine HS.out.mono ?_
  rintro e w1 ⟨rfl, rfl⟩
  go_wp2_with fail
  refine hw1.out.mono ?_
  rintro e w1 ⟨rfl, rfl⟩
  by_cases hq : 1 < l.length ∧ lo ≤ byteAt l 1 ∧ byteAt l 1 ≤ hi
  · have hqt : decide (1 < l.length ∧ lo ≤ byteAt l 1 ∧ byteAt l 1 ≤ hi) = true := by simpa using hq
    rw [hqt]
    have HQ := Lib.hid hq
    clear hqt hq
    go_wp2_with fail
    go_loop [7] (fun i => ∃ k : Nat, 2 ≤ k ∧ k ≤ 4 ∧ i = .int .i64 (k : Int) ∧ Hid (∀ j, 2 ≤ j → j < k → j < l.length ∧ 128 ≤ byteAt l j ∧ byteAt l j ≤ 191)) (fun i => 4 - (intOf i).toNat)
    case atStart => exact ⟨2, by omega, by omega, rfl, Lib.hid (fun j h1 h2 => by omega)⟩
    case round =>
      obtain ⟨k, hk2, hkn, rfl, HK⟩ := hrel
      by_cases hlt : k < 4
      · have hwk := Lib.hid (spec_within l k 128 191 w hl)
        go_wp2_with fail
        refine hwk.out.mono ?_
        rintro e w1 ⟨rfl, rfl⟩
        by_cases hq : k < l.length ∧ 128 ≤ byteAt l k ∧ byteAt l k ≤ 191
        · have hqt : decide (k < l.length ∧ 128 ≤ byteAt l k ∧ byteAt l k ≤ 191) = true := by simpa using hq
          rw [hqt]
          have HQ2 := Lib.hid hq
          clear hqt hq
          go_wp2_with fail
          go_round
          case rel =>
            refine ⟨k + 1, by omega, by omega, by go_num, Lib.hid (fun j h1 h2 => ?_)⟩
            by_cases hj : j = k
            · subst hj; exact HQ2.out
            · exact HK.out j h1 (by omega)
          case measure => simp [intOf]; omega
        · have hqt : decide (k < l.length ∧ 128 ≤ byteAt l k ∧ byteAt l k ≤ 191) = false := by simpa using hq
          rw [hqt]
          have HQ2 := Lib.hid hq
          clear hqt hq
          go_wp2_with fail
          go_ret2
          refine ⟨65533, 1, rfl, ?_, rfl⟩
          show _ = _
          have q1 := HQ.out
          have q2 := HQ2.out
          have q3 := HK.out
          rw [HD.out]
          unfold Lib.slowN
          rcases (show k = 2 ∨ k = 3 by omega) with rfl | rfl
          · repeat' split
            all_goals first | rfl | (exfalso; omega)
          · have q4 := q3 2 (by omega) (by omega)
            repeat' split
            all_goals first | rfl | (exfalso; omega)
      · obtain rfl : k = 4 := by omega
        go_wp2_with fail
        go_loop [8, 9] (fun v i => ∃ k r : Nat, 1 ≤ k ∧ k ≤ 4 ∧ i = .int .i64 (k : Int) ∧ v = .int .i32 (r : Int) ∧ (k = 1 → r < 32) ∧ (k = 2 → r < 2048) ∧ (k = 3 → r < 131072) ∧ Hid ((r : Int) = accV l 240 (k - 1))) (fun _ i => 4 - (intOf i).toNat)
        case atStart =>
          refine ⟨1, ((⟨l.toArray⟩ : ByteArray)[0]).toNat - 240, by omega, by omega, rfl, vint (by omega), by omega, by omega, by omega, ?_⟩
          show _ = _ - _
          have := HB.out
          omega
        case round =>
          obtain ⟨k, r, hk1, hkn2, rfl, rfl, r1, r2, r3, HR⟩ := hrel
          by_cases hlt2 : k < 4
          · obtain ⟨hkl, hx1, hx2⟩ : k < l.length ∧ 128 ≤ byteAt l k ∧ byteAt l k ≤ 191 := by
              by_cases hk1' : k = 1
              · have q1 := HQ.out
                subst hk1'
                exact ⟨q1.1, by omega, by omega⟩
              · exact HK.out k (by omega) hlt2
            have hsk : k < (⟨l.toArray⟩ : ByteArray).size := by rw [str_size]; exact hkl
            have hbk := str_at l k hkl hsk
            rw [← hbk] at hx1 hx2
            have HBK := Lib.hid hbk
            have hr3 : r < 131072 := by
              rcases (show k = 1 ∨ k = 2 ∨ k = 3 by omega) with rfl | rfl | rfl
              · have := r1 rfl; omega
              · have := r2 rfl; omega
              · exact r3 rfl
            have R1 := Lib.hid r1
            have R2 := Lib.hid r2
            clear hbk r1 r2 r3
            go_wp2_with fail
            go_round
            case rel =>
              have r1 := R1.out
              have r2 := R2.out
              refine ⟨k + 1, r * 64 + ((⟨l.toArray⟩ : ByteArray)[k]).toNat - 128, by omega, by omega, by go_num, vint (by omega), by omega, by omega, by omega, ?_⟩
              show _ = _
              obtain ⟨k', rfl⟩ : ∃ k', k = k' + 1 := ⟨k - 1, by omega⟩
              have h2 := HBK.out
              have h3 := HR.out
              simp only [Nat.add_sub_cancel] at h3 ⊢
              simp only [accV]
              rw [← h3, ← h2]
              omega
            case measure => simp [intOf]; omega
          · obtain rfl : k = 4 := by omega
            clear r1 r2 r3
            go_wp2_with fail
            go_ret2
            refine ⟨r, 4, rfl, ?_, rfl⟩
            show _ = _
            have q1 := HQ.out
            have q3 := HK.out
            have h3 := HR.out
            have h4 := HC.out
            have q4 := q3 2 (by omega) (by omega); have q5 := q3 3 (by omega) (by omega)
            rw [HD.out]
            simp only [accV, Nat.reduceSub, Nat.reduceAdd] at h3
            unfold Lib.slowN
            repeat' split
            all_goals first | (exfalso; omega) | (apply Prod.ext <;> simp only <;> omega)
  · have hqt : decide (1 < l.length ∧ lo ≤ byteAt l 1 ∧ byteAt l 1 ≤ hi) = false := by simpa using hq
    rw [hqt]
    have HQ := Lib.hid hq
    clear hqt hq
    go_wp2_with fail
    go_ret2
    refine ⟨65533, 1, rfl, ?_, rfl⟩
    show _ = _
    have q1 := HQ.out
    rw [HD.out]
    unfold Lib.slowN
    repeat' split
    all_goals first | rfl | (exfalso; omega)

set_option maxHeartbeats 1600000 in
set_option maxRecDepth 100000 in
theorem Decode_ascii (hg : byteAt l 0 < 128) : Calls Tryd.prog 87 #[.string ⟨l.toArray⟩] w (DecPost l w) := by
  have hsz : 0 < (⟨l.toArray⟩ : ByteArray).size := by rw [str_size]; exact h0
  have hb := str_at l 0 h0 hsz
  have HB := Lib.hid hb
  have HG := Lib.hid hg
  rw [← hb] at hg
  clear hb
  go_enter Tryd.func87, Tryd.ntmps87
  go_wp2_with fail
  go_ret2
  refine ⟨((⟨l.toArray⟩ : ByteArray)[0]).toNat, 1, rfl, ?_, rfl⟩
  show _ = _
  rw [HB.out]
  unfold dec Lib.decodeN
  rw [if_pos HG.out]

theorem spec_Decode : Calls Tryd.prog 87 #[.string ⟨l.toArray⟩] w (DecPost l w) := by
  by_cases hg : byteAt l 0 < 128
  · exact Decode_ascii l w h0 hl hg
  rcases sec_cases (byteAt l 0) with h | h | h | h
  · refine (Decode_bad l w h0 hl h (by omega)).mono ?_
    rintro e w' ⟨rfl, rfl⟩
    exact ⟨65533, 1, rfl, (dec_bad l h0 (by omega) h).symm, rfl⟩
  · exact Decode_two l w h0 hl h
  · exact Decode_three l w h0 hl h
  · exact Decode_four l w h0 hl h
end

end Go.Proofs.YtgjaeggpaomoaaaDoor
