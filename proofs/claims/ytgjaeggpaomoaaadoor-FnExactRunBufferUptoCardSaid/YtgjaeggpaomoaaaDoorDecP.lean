/- Code points in bytes: plain facts on how they are read and written. -/
import Derived.Lib.RuneBytes
import Derived.Lib.DecodeN
import Derived.Lib.DecodeNEq
namespace Go.Proofs.YtgjaeggpaomoaaaDoor
set_option linter.unusedVariables false

/-- The code point with which bytes begin, and its size. -/
def byteAt (l : List UInt8) (i : Nat) : Nat := (l.getD i 0).toNat
def dec (l : List UInt8) : Nat × Nat := Lib.decodeN l.length (byteAt l 0) (byteAt l 1) (byteAt l 2) (byteAt l 3)
theorem byteAt_lt (l : List UInt8) (i : Nat) : byteAt l i < 256 := (l.getD i 0).toNat_lt
theorem byteAt_get (l : List UInt8) (i : Nat) (h : i < l.length) : byteAt l i = (l[i]).toNat := by simp [byteAt, h]

set_option maxHeartbeats 2000000 in
theorem dec_size (l : List UInt8) (h : l ≠ []) : 1 ≤ (dec l).2 ∧ (dec l).2 ≤ 4 ∧ (dec l).2 ≤ l.length := by
  have hl : 1 ≤ l.length := by cases l; exact absurd rfl h; simp
  unfold dec Lib.decodeN
  generalize byteAt l 0 = b0
  generalize byteAt l 1 = b1
  generalize byteAt l 2 = b2
  generalize byteAt l 3 = b3
  repeat' split
  all_goals simp only
  all_goals omega
set_option maxHeartbeats 2000000 in
theorem dec_rune (l : List UInt8) : (dec l).1 ≤ 1114111 := by
  unfold dec Lib.decodeN
  have h0 := byteAt_lt l 0
  have h1 := byteAt_lt l 1
  have h2 := byteAt_lt l 2
  have h3 := byteAt_lt l 3
  generalize byteAt l 0 = b0 at *
  generalize byteAt l 1 = b1 at *
  generalize byteAt l 2 = b2 at *
  generalize byteAt l 3 = b3 at *
  repeat' split
  all_goals simp only
  all_goals omega

theorem enc_is (r : Int) (l : List UInt8) (h : Lib.encodeRuneZ r = l.map fun x => (x.toNat : Int)) : Lib.encodeRune r = l := by
  rw [Lib.encodeRune, h, List.map_map]
  conv => rhs; rw [← List.map_id l]
  refine List.map_congr_left fun x _ => ?_
  simp

/-- What is read is what is written, but for bytes that begin no code point. -/
theorem enc_of_dec (l : List UInt8) (h : l ≠ []) (hg : (dec l).1 ≠ 65533 ∨ (dec l).2 ≠ 1) : Lib.encodeRune ((dec l).1 : Int) = l.take (dec l).2 := by
  refine enc_is _ _ ?_
  revert hg
  unfold dec Lib.decodeN
  match l, h with
  | [], h => exact absurd rfl h
  | [x0], _ =>
    have l0 := x0.toNat_lt
    simp only [byteAt, List.getD_cons_zero, List.length_cons, List.length_nil]
    repeat' split
    all_goals intro hg
    all_goals first
      | (exfalso; revert hg; simp; done)
      | (exfalso; omega)
      | (rw [Lib.encodeRuneZ_one (by omega) (by omega)]; rfl)
  | [x0, x1], _ =>
    have l0 := x0.toNat_lt
    have l1 := x1.toNat_lt
    simp only [byteAt, List.getD_cons_zero, List.getD_cons_succ, List.length_cons, List.length_nil]
    repeat' split
    all_goals intro hg
    all_goals first
      | (exfalso; revert hg; simp; done)
      | (exfalso; omega)
      | (rw [Lib.encodeRuneZ_one (by omega) (by omega)]; rfl)
      | (rw [Lib.encodeRuneZ_two (by omega) (by omega)]; simp only [List.take_succ_cons, List.take_zero, List.map_cons, List.map_nil, List.cons.injEq, and_true]; refine ⟨?_, ?_⟩ <;> omega)
  | [x0, x1, x2], _ =>
    have l0 := x0.toNat_lt
    have l1 := x1.toNat_lt
    have l2 := x2.toNat_lt
    simp only [byteAt, List.getD_cons_zero, List.getD_cons_succ, List.length_cons, List.length_nil]
    repeat' split
    all_goals intro hg
    all_goals first
      | (exfalso; revert hg; simp; done)
      | (exfalso; omega)
      | (rw [Lib.encodeRuneZ_one (by omega) (by omega)]; rfl)
      | (rw [Lib.encodeRuneZ_two (by omega) (by omega)]; simp only [List.take_succ_cons, List.take_zero, List.map_cons, List.map_nil, List.cons.injEq, and_true]; refine ⟨?_, ?_⟩ <;> omega)
      | (rw [Lib.encodeRuneZ_three (by omega)]; simp only [List.take_succ_cons, List.take_zero, List.map_cons, List.map_nil, List.cons.injEq, and_true]; refine ⟨?_, ?_, ?_⟩ <;> omega)
  | x0 :: x1 :: x2 :: x3 :: t, _ =>
    have l0 := x0.toNat_lt
    have l1 := x1.toNat_lt
    have l2 := x2.toNat_lt
    have l3 := x3.toNat_lt
    simp only [byteAt, List.getD_cons_zero, List.getD_cons_succ, List.length_cons]
    repeat' split
    all_goals intro hg
    all_goals first
      | (exfalso; revert hg; simp; done)
      | (exfalso; omega)
      | (rw [Lib.encodeRuneZ_one (by omega) (by omega)]; rfl)
      | (rw [Lib.encodeRuneZ_two (by omega) (by omega)]; simp only [List.take_succ_cons, List.take_zero, List.map_cons, List.map_nil, List.cons.injEq, and_true]; refine ⟨?_, ?_⟩ <;> omega)
      | (rw [Lib.encodeRuneZ_three (by omega)]; simp only [List.take_succ_cons, List.take_zero, List.map_cons, List.map_nil, List.cons.injEq, and_true]; refine ⟨?_, ?_, ?_⟩ <;> omega)
      | (rw [Lib.encodeRuneZ_four (by omega) (by omega)]; simp only [List.take_succ_cons, List.take_zero, List.map_cons, List.map_nil, List.cons.injEq, and_true]; refine ⟨?_, ?_, ?_, ?_⟩ <;> omega)

/-- What is written is read. -/
theorem dec_of_enc (r : Int) (hv : (0 ≤ r ∧ r < 55296) ∨ (57343 < r ∧ r ≤ 1114111)) (t : List UInt8) : dec (Lib.encodeRune r ++ t) = (r.toNat, (Lib.encodeRune r).length) := by
  by_cases c1 : r ≤ 127
  · have h0 : 0 ≤ r := by omega
    simp only [Lib.encodeRune, Lib.encodeRuneZ_one h0 c1, List.map_cons, List.map_nil, List.cons_append, List.nil_append, dec, byteAt, List.getD_cons_zero, List.getD_cons_succ, List.length_cons, List.length_nil]
    have : (r.toNat.toUInt8).toNat = r.toNat := by simp; omega
    rw [this]
    unfold Lib.decodeN
    rw [if_pos (by omega)]
  by_cases c2 : r ≤ 2047
  · simp only [Lib.encodeRune, Lib.encodeRuneZ_two (by omega : 128 ≤ r) c2, List.map_cons, List.map_nil, List.cons_append, List.nil_append, dec, byteAt, List.getD_cons_zero, List.getD_cons_succ, List.length_cons, List.length_nil]
    have e0 : ((192 + r / 64).toNat.toUInt8).toNat = (192 + r / 64).toNat := by simp; omega
    have e1 : ((128 + r % 64).toNat.toUInt8).toNat = (128 + r % 64).toNat := by simp; omega
    rw [e0, e1]
    unfold Lib.decodeN
    rw [if_neg (by omega), if_pos (by omega), if_pos (by omega)]
    refine Prod.ext ?_ rfl
    simp only
    omega
  by_cases c3 : r ≤ 65535
  · simp only [Lib.encodeRune, Lib.encodeRuneZ_three (r := r) (by omega), List.map_cons, List.map_nil, List.cons_append, List.nil_append, dec, byteAt, List.getD_cons_zero, List.getD_cons_succ, List.length_cons, List.length_nil]
    have e0 : ((224 + r / 4096).toNat.toUInt8).toNat = (224 + r / 4096).toNat := by simp; omega
    have e1 : ((128 + r / 64 % 64).toNat.toUInt8).toNat = (128 + r / 64 % 64).toNat := by simp; omega
    have e2 : ((128 + r % 64).toNat.toUInt8).toNat = (128 + r % 64).toNat := by simp; omega
    rw [e0, e1, e2]
    unfold Lib.decodeN
    rw [if_neg (by omega), if_neg (by omega), if_pos (by omega), if_pos (by omega)]
    refine Prod.ext ?_ rfl
    simp only
    omega
  · simp only [Lib.encodeRune, Lib.encodeRuneZ_four (by omega : 65536 ≤ r) (by omega : r ≤ 1114111), List.map_cons, List.map_nil, List.cons_append, List.nil_append, dec, byteAt, List.getD_cons_zero, List.getD_cons_succ, List.length_cons, List.length_nil]
    have e0 : ((240 + r / 262144).toNat.toUInt8).toNat = (240 + r / 262144).toNat := by simp; omega
    have e1 : ((128 + r / 4096 % 64).toNat.toUInt8).toNat = (128 + r / 4096 % 64).toNat := by simp; omega
    have e2 : ((128 + r / 64 % 64).toNat.toUInt8).toNat = (128 + r / 64 % 64).toNat := by simp; omega
    have e3 : ((128 + r % 64).toNat.toUInt8).toNat = (128 + r % 64).toNat := by simp; omega
    rw [e0, e1, e2, e3]
    unfold Lib.decodeN
    rw [if_neg (by omega), if_neg (by omega), if_neg (by omega), if_pos (by omega), if_pos (by omega)]
    refine Prod.ext ?_ rfl
    simp only
    omega

end Go.Proofs.YtgjaeggpaomoaaaDoor
