/- The reference's calls that write, look at all or cut. -/
import Derived.Test.YtgjaeggpaomoaaaDoorSpecC0
namespace Go.Proofs.YtgjaeggpaomoaaaDoor
open Go.RowKit
set_option linter.unusedVariables false
set_option linter.unusedSectionVars false
attribute [local go_sem ↓] Go.wp_at_zero Go.wp_at_succ

section
variable (s : Sta) (o : OpV) (w : World) (hs : StaOk s) (ho : o.Ok) (hl : s.text.length + o.text.length + 4 ≤ 4194304)
include hs ho hl

set_option maxHeartbeats 4000000 in
set_option maxRecDepth 100000 in
theorem sc_len (hk : o.kind = k_len) : Calls Tryd.prog 35 #[s.val, o.val] w (SPost s o w) := by
  obtain ⟨kind, text, size, n, char⟩ := o
  obtain ⟨stext, recent, last, begun⟩ := s
  obtain ⟨hr6, hl4, hwh⟩ := hs
  obtain ⟨hsz, hn0, hn1, hc0, hc1⟩ := ho
  simp only at hk hr6 hl4 hwh hsz hn0 hn1 hc0 hc1 hl
  subst hk
  have HM := Lib.hid ((callS_of _ _ (by show k_len ≠ k_writerune; decide)).trans (callM_len ⟨stext, recent, last, begun⟩ ⟨k_len, text, size, n, char⟩ rfl))
  try simp only at HM
  have HWH := Lib.hid hwh
  clear hwh
  unfold Sta.val OpV.val
  go_enter Tryd.func35, Tryd.ntmps35
  go_wp2_with fail
  go_region
  all_goals
    go_wp2_with fail
    refine bodyPost_ret (v := .tuple #[.agg #[.string ⟨stext.toArray⟩, .int .i64 (recent : Int), .string ⟨last.toArray⟩, .bool begun], .agg #[.string ⟨#[]⟩, .int .i64 (stext.length : Int), .int .i32 0, .string ⟨#[]⟩], .bool true]) (by simp [results, Tryd.results35, go_sem]) rfl ?_
    exact ⟨_, _, true, rfl, HM, (by repeat' first | with_reducible exact Fr.refl _ _ | with_reducible refine Fr.alloc ?_ _ | with_reducible refine Fr.drew ?_ | refine Fr.setCell ?_ (.inr (by simp)) _)⟩

set_option maxHeartbeats 4000000 in
set_option maxRecDepth 100000 in
theorem sc_bytes (hk : o.kind = k_bytes) : Calls Tryd.prog 35 #[s.val, o.val] w (SPost s o w) := by
  obtain ⟨kind, text, size, n, char⟩ := o
  obtain ⟨stext, recent, last, begun⟩ := s
  obtain ⟨hr6, hl4, hwh⟩ := hs
  obtain ⟨hsz, hn0, hn1, hc0, hc1⟩ := ho
  simp only at hk hr6 hl4 hwh hsz hn0 hn1 hc0 hc1 hl
  subst hk
  have HM := Lib.hid ((callS_of _ _ (by show k_bytes ≠ k_writerune; decide)).trans (callM_bytes ⟨stext, recent, last, begun⟩ ⟨k_bytes, text, size, n, char⟩ rfl))
  try simp only at HM
  have HWH := Lib.hid hwh
  clear hwh
  unfold Sta.val OpV.val
  go_enter Tryd.func35, Tryd.ntmps35
  go_wp2_with fail
  go_region
  all_goals
    go_wp2_with fail
    refine bodyPost_ret (v := .tuple #[.agg #[.string ⟨stext.toArray⟩, .int .i64 (recent : Int), .string ⟨last.toArray⟩, .bool begun], .agg #[.string ⟨stext.toArray⟩, .int .i64 0, .int .i32 0, .string ⟨#[]⟩], .bool true]) (by simp [results, Tryd.results35, go_sem]) rfl ?_
    exact ⟨_, _, true, rfl, HM, (by repeat' first | with_reducible exact Fr.refl _ _ | with_reducible refine Fr.alloc ?_ _ | with_reducible refine Fr.drew ?_ | refine Fr.setCell ?_ (.inr (by simp)) _)⟩

set_option maxHeartbeats 4000000 in
set_option maxRecDepth 100000 in
theorem sc_string (hk : o.kind = k_string) : Calls Tryd.prog 35 #[s.val, o.val] w (SPost s o w) := by
  obtain ⟨kind, text, size, n, char⟩ := o
  obtain ⟨stext, recent, last, begun⟩ := s
  obtain ⟨hr6, hl4, hwh⟩ := hs
  obtain ⟨hsz, hn0, hn1, hc0, hc1⟩ := ho
  simp only at hk hr6 hl4 hwh hsz hn0 hn1 hc0 hc1 hl
  subst hk
  have HM := Lib.hid ((callS_of _ _ (by show k_string ≠ k_writerune; decide)).trans (callM_string ⟨stext, recent, last, begun⟩ ⟨k_string, text, size, n, char⟩ rfl))
  try simp only at HM
  have HWH := Lib.hid hwh
  clear hwh
  unfold Sta.val OpV.val
  go_enter Tryd.func35, Tryd.ntmps35
  go_wp2_with fail
  go_region
  all_goals
    go_wp2_with fail
    refine bodyPost_ret (v := .tuple #[.agg #[.string ⟨stext.toArray⟩, .int .i64 (recent : Int), .string ⟨last.toArray⟩, .bool begun], .agg #[.string ⟨stext.toArray⟩, .int .i64 0, .int .i32 0, .string ⟨#[]⟩], .bool true]) (by simp [results, Tryd.results35, go_sem]) rfl ?_
    exact ⟨_, _, true, rfl, HM, (by repeat' first | with_reducible exact Fr.refl _ _ | with_reducible refine Fr.alloc ?_ _ | with_reducible refine Fr.drew ?_ | refine Fr.setCell ?_ (.inr (by simp)) _)⟩

set_option maxHeartbeats 4000000 in
set_option maxRecDepth 100000 in
theorem sc_reset (hk : o.kind = k_reset) : Calls Tryd.prog 35 #[s.val, o.val] w (SPost s o w) := by
  obtain ⟨kind, text, size, n, char⟩ := o
  obtain ⟨stext, recent, last, begun⟩ := s
  obtain ⟨hr6, hl4, hwh⟩ := hs
  obtain ⟨hsz, hn0, hn1, hc0, hc1⟩ := ho
  simp only at hk hr6 hl4 hwh hsz hn0 hn1 hc0 hc1 hl
  subst hk
  have HM := Lib.hid ((callS_of _ _ (by show k_reset ≠ k_writerune; decide)).trans (callM_reset ⟨stext, recent, last, begun⟩ ⟨k_reset, text, size, n, char⟩ rfl))
  try simp only at HM
  have HWH := Lib.hid hwh
  clear hwh
  unfold Sta.val OpV.val
  go_enter Tryd.func35, Tryd.ntmps35
  go_wp2_with fail
  refine bodyPost_ret (v := .tuple #[.agg #[.string ⟨#[]⟩, .int .i64 6, .string ⟨#[]⟩, .bool begun], .agg #[.string ⟨#[]⟩, .int .i64 0, .int .i32 0, .string ⟨#[]⟩], .bool true]) (by simp [results, Tryd.results35, go_sem]) rfl ?_
  exact ⟨_, _, true, rfl, HM, (by repeat' first | with_reducible exact Fr.refl _ _ | with_reducible refine Fr.alloc ?_ _ | with_reducible refine Fr.drew ?_ | refine Fr.setCell ?_ (.inr (by simp)) _)⟩

set_option maxHeartbeats 4000000 in
set_option maxRecDepth 100000 in
theorem sc_grow_bad (hk : o.kind = k_grow) (hb : o.n < 0) : Calls Tryd.prog 35 #[s.val, o.val] w (SPost s o w) := by
  obtain ⟨kind, text, size, n, char⟩ := o
  obtain ⟨stext, recent, last, begun⟩ := s
  obtain ⟨hr6, hl4, hwh⟩ := hs
  obtain ⟨hsz, hn0, hn1, hc0, hc1⟩ := ho
  simp only at hk hr6 hl4 hwh hsz hn0 hn1 hc0 hc1 hl
  subst hk
  simp only at hb
  have HM := Lib.hid ((callS_of _ _ (by show k_grow ≠ k_writerune; decide)).trans ((callM_grow ⟨stext, recent, last, begun⟩ ⟨k_grow, text, size, n, char⟩ rfl).trans (if_pos hb)))
  try simp only at HM
  have HWH := Lib.hid hwh
  clear hwh
  unfold Sta.val OpV.val
  go_enter Tryd.func35, Tryd.ntmps35
  go_wp2_with fail
  refine bodyPost_ret (v := .tuple #[.agg #[.string ⟨stext.toArray⟩, .int .i64 (recent : Int), .string ⟨last.toArray⟩, .bool begun], .agg #[.string ⟨#[]⟩, .int .i64 0, .int .i32 0, .string ⟨#[112, 97, 110, 105, 99]⟩], .bool true]) (by simp [results, Tryd.results35, go_sem]) rfl ?_
  exact ⟨_, _, true, rfl, HM, (by repeat' first | with_reducible exact Fr.refl _ _ | with_reducible refine Fr.alloc ?_ _ | with_reducible refine Fr.drew ?_ | refine Fr.setCell ?_ (.inr (by simp)) _)⟩

set_option maxHeartbeats 4000000 in
set_option maxRecDepth 100000 in
theorem sc_grow_ok (hk : o.kind = k_grow) (hb : ¬ o.n < 0) : Calls Tryd.prog 35 #[s.val, o.val] w (SPost s o w) := by
  obtain ⟨kind, text, size, n, char⟩ := o
  obtain ⟨stext, recent, last, begun⟩ := s
  obtain ⟨hr6, hl4, hwh⟩ := hs
  obtain ⟨hsz, hn0, hn1, hc0, hc1⟩ := ho
  simp only at hk hr6 hl4 hwh hsz hn0 hn1 hc0 hc1 hl
  subst hk
  simp only at hb
  have HM := Lib.hid ((callS_of _ _ (by show k_grow ≠ k_writerune; decide)).trans ((callM_grow ⟨stext, recent, last, begun⟩ ⟨k_grow, text, size, n, char⟩ rfl).trans (if_neg hb)))
  try simp only at HM
  have HWH := Lib.hid hwh
  clear hwh
  unfold Sta.val OpV.val
  go_enter Tryd.func35, Tryd.ntmps35
  go_wp2_with fail
  refine bodyPost_ret (v := .tuple #[.agg #[.string ⟨stext.toArray⟩, .int .i64 6, .string ⟨#[]⟩, .bool begun], .agg #[.string ⟨#[]⟩, .int .i64 0, .int .i32 0, .string ⟨#[]⟩], .bool true]) (by simp [results, Tryd.results35, go_sem]) rfl ?_
  exact ⟨_, _, true, rfl, HM, (by repeat' first | with_reducible exact Fr.refl _ _ | with_reducible refine Fr.alloc ?_ _ | with_reducible refine Fr.drew ?_ | refine Fr.setCell ?_ (.inr (by simp)) _)⟩

set_option maxHeartbeats 4000000 in
set_option maxRecDepth 100000 in
theorem sc_truncate_neg (hk : o.kind = k_truncate) (hb : o.n < 0) : Calls Tryd.prog 35 #[s.val, o.val] w (SPost s o w) := by
  obtain ⟨kind, text, size, n, char⟩ := o
  obtain ⟨stext, recent, last, begun⟩ := s
  obtain ⟨hr6, hl4, hwh⟩ := hs
  obtain ⟨hsz, hn0, hn1, hc0, hc1⟩ := ho
  simp only at hk hr6 hl4 hwh hsz hn0 hn1 hc0 hc1 hl
  subst hk
  simp only at hb
  have HM := Lib.hid ((callS_of _ _ (by show k_truncate ≠ k_writerune; decide)).trans ((callM_truncate ⟨stext, recent, last, begun⟩ ⟨k_truncate, text, size, n, char⟩ rfl).trans (if_pos (.inl hb))))
  try simp only at HM
  have HWH := Lib.hid hwh
  clear hwh
  unfold Sta.val OpV.val
  go_enter Tryd.func35, Tryd.ntmps35
  go_wp2_with fail
  refine bodyPost_ret (v := .tuple #[.agg #[.string ⟨stext.toArray⟩, .int .i64 (recent : Int), .string ⟨last.toArray⟩, .bool begun], .agg #[.string ⟨#[]⟩, .int .i64 0, .int .i32 0, .string ⟨#[112, 97, 110, 105, 99]⟩], .bool true]) (by simp [results, Tryd.results35, go_sem]) rfl ?_
  exact ⟨_, _, true, rfl, HM, (by repeat' first | with_reducible exact Fr.refl _ _ | with_reducible refine Fr.alloc ?_ _ | with_reducible refine Fr.drew ?_ | refine Fr.setCell ?_ (.inr (by simp)) _)⟩

set_option maxHeartbeats 4000000 in
set_option maxRecDepth 100000 in
theorem sc_truncate_far (hk : o.kind = k_truncate) (hb : ¬ o.n < 0) (hb2 : (s.text.length : Int) < o.n) : Calls Tryd.prog 35 #[s.val, o.val] w (SPost s o w) := by
  obtain ⟨kind, text, size, n, char⟩ := o
  obtain ⟨stext, recent, last, begun⟩ := s
  obtain ⟨hr6, hl4, hwh⟩ := hs
  obtain ⟨hsz, hn0, hn1, hc0, hc1⟩ := ho
  simp only at hk hr6 hl4 hwh hsz hn0 hn1 hc0 hc1 hl
  subst hk
  simp only at hb hb2
  have HM := Lib.hid ((callS_of _ _ (by show k_truncate ≠ k_writerune; decide)).trans ((callM_truncate ⟨stext, recent, last, begun⟩ ⟨k_truncate, text, size, n, char⟩ rfl).trans (if_pos (.inr hb2))))
  try simp only at HM
  have HWH := Lib.hid hwh
  clear hwh
  unfold Sta.val OpV.val
  have hd1 : decide (n < 0) = false := decide_eq_false hb
  have hd2 : decide ((stext.length : Int) < n) = true := decide_eq_true hb2
  go_enter Tryd.func35, Tryd.ntmps35
  go_wp2_with fail
  refine bodyPost_ret (v := .tuple #[.agg #[.string ⟨stext.toArray⟩, .int .i64 (recent : Int), .string ⟨last.toArray⟩, .bool begun], .agg #[.string ⟨#[]⟩, .int .i64 0, .int .i32 0, .string ⟨#[112, 97, 110, 105, 99]⟩], .bool true]) (by simp [results, Tryd.results35, go_sem]) rfl ?_
  exact ⟨_, _, true, rfl, HM, (by repeat' first | with_reducible exact Fr.refl _ _ | with_reducible refine Fr.alloc ?_ _ | with_reducible refine Fr.drew ?_ | refine Fr.setCell ?_ (.inr (by simp)) _)⟩

set_option maxHeartbeats 4000000 in
set_option maxRecDepth 100000 in
theorem sc_truncate_ok (hk : o.kind = k_truncate) (hb : ¬ o.n < 0) (hb2 : ¬ (s.text.length : Int) < o.n) : Calls Tryd.prog 35 #[s.val, o.val] w (SPost s o w) := by
  obtain ⟨kind, text, size, n, char⟩ := o
  obtain ⟨stext, recent, last, begun⟩ := s
  obtain ⟨hr6, hl4, hwh⟩ := hs
  obtain ⟨hsz, hn0, hn1, hc0, hc1⟩ := ho
  simp only at hk hr6 hl4 hwh hsz hn0 hn1 hc0 hc1 hl
  subst hk
  simp only at hb hb2
  obtain ⟨m, rfl⟩ := Int.eq_ofNat_of_zero_le (show 0 ≤ n by omega)
  have HM := Lib.hid ((callS_of _ _ (by show k_truncate ≠ k_writerune; decide)).trans ((callM_truncate ⟨stext, recent, last, begun⟩ ⟨k_truncate, text, size, (m : Int), char⟩ rfl).trans (if_neg (show ¬ ((m : Int) < 0 ∨ (stext.length : Int) < (m : Int)) by omega))))
  try simp only at HM
  have HWH := Lib.hid hwh
  clear hwh
  unfold Sta.val OpV.val
  rw [Int.toNat_natCast] at HM
  have hd1 : decide ((m : Int) < 0) = false := decide_eq_false (by omega)
  have hd2 : decide ((stext.length : Int) < (m : Int)) = false := decide_eq_false (by omega)
  go_enter Tryd.func35, Tryd.ntmps35
  go_wp2_with fail
  go_region
  all_goals
    go_wp2_with fail
    refine bodyPost_ret (v := .tuple #[.agg #[.string ⟨(stext.take m).toArray⟩, .int .i64 6, .string ⟨#[]⟩, .bool begun], .agg #[.string ⟨#[]⟩, .int .i64 0, .int .i32 0, .string ⟨#[]⟩], .bool true]) (by simp [results, Tryd.results35, go_sem]) rfl ?_
    exact ⟨_, _, true, rfl, HM, (by repeat' first | with_reducible exact Fr.refl _ _ | with_reducible refine Fr.alloc ?_ _ | with_reducible refine Fr.drew ?_ | refine Fr.setCell ?_ (.inr (by simp)) _)⟩

set_option maxHeartbeats 4000000 in
set_option maxRecDepth 100000 in
theorem sc_write (hk : o.kind = k_write) : Calls Tryd.prog 35 #[s.val, o.val] w (SPost s o w) := by
  obtain ⟨kind, text, size, n, char⟩ := o
  obtain ⟨stext, recent, last, begun⟩ := s
  obtain ⟨hr6, hl4, hwh⟩ := hs
  obtain ⟨hsz, hn0, hn1, hc0, hc1⟩ := ho
  simp only at hk hr6 hl4 hwh hsz hn0 hn1 hc0 hc1 hl
  subst hk
  have HM := Lib.hid ((callS_of _ _ (by show k_write ≠ k_writerune; decide)).trans (callM_write ⟨stext, recent, last, begun⟩ ⟨k_write, text, size, n, char⟩ rfl))
  try simp only at HM
  have HWH := Lib.hid hwh
  clear hwh
  unfold Sta.val OpV.val
  have HW := Lib.hid fun W => State_written ⟨stext, recent, last, begun⟩ text W (by simp only; omega)
  generalize hwr : Sta.wr ⟨stext, recent, last, begun⟩ text = sw at *
  unfold Sta.val at HW
  clear hwr
  go_enter Tryd.func35, Tryd.ntmps35
  go_wp2_with fail
  go_region_with ((go_at_call 66; ((with_reducible refine (HW.out _).mono ?_); rintro e w2 ⟨rfl, hf2⟩; have hf02 := ((Fr.refl [] _).drew).trans hf2; have hf12 := fr_four hf02 (by simp); obtain ⟨c00, c01, c02, c03, c10, c11, c12, c13, c14, c20, f20, c21, f21, c22, f22, c23, f23, c30, f30, c31, f31, c32, f32, c33, f33⟩ := four_facts hf02)))
  all_goals
    go_wp2_with fail
    refine bodyPost_ret (v := .tuple #[.agg #[.string ⟨sw.text.toArray⟩, .int .i64 (sw.recent : Int), .string ⟨sw.last.toArray⟩, .bool sw.begun], .agg #[.string ⟨#[]⟩, .int .i64 (text.length : Int), .int .i32 0, .string ⟨#[]⟩], .bool true]) (by simp [results, Tryd.results35, go_sem, c20, c21, c22, c23, c30, c31, c32, c33]) rfl ?_
    have hfs : ∀ w3, Fr [w.heap.size + 1 + 1, w.heap.size + 1 + 1 + 1] w2 w3 → SPost _ _ w (.returned (.tuple #[.agg #[.string ⟨sw.text.toArray⟩, .int .i64 (sw.recent : Int), .string ⟨sw.last.toArray⟩, .bool sw.begun], .agg #[.string ⟨#[]⟩, .int .i64 (text.length : Int), .int .i32 0, .string ⟨#[]⟩], .bool true])) w3 := fun w3 hf3 => ⟨_, _, true, rfl, HM, hf12.trans_of hf3 (by intro i hi; simp only [List.mem_cons, List.not_mem_nil, or_false] at hi; exact .inr (by omega))⟩
    exact hfs _ (by repeat' first | with_reducible exact Fr.refl _ _ | with_reducible refine Fr.drew ?_ | refine Fr.setCell ?_ (.inl (by simp)) _)

set_option maxHeartbeats 4000000 in
set_option maxRecDepth 100000 in
theorem sc_writestring (hk : o.kind = k_writestring) : Calls Tryd.prog 35 #[s.val, o.val] w (SPost s o w) := by
  obtain ⟨kind, text, size, n, char⟩ := o
  obtain ⟨stext, recent, last, begun⟩ := s
  obtain ⟨hr6, hl4, hwh⟩ := hs
  obtain ⟨hsz, hn0, hn1, hc0, hc1⟩ := ho
  simp only at hk hr6 hl4 hwh hsz hn0 hn1 hc0 hc1 hl
  subst hk
  have HM := Lib.hid ((callS_of _ _ (by show k_writestring ≠ k_writerune; decide)).trans (callM_writestring ⟨stext, recent, last, begun⟩ ⟨k_writestring, text, size, n, char⟩ rfl))
  try simp only at HM
  have HWH := Lib.hid hwh
  clear hwh
  unfold Sta.val OpV.val
  have HW := Lib.hid fun W => State_written ⟨stext, recent, last, begun⟩ text W (by simp only; omega)
  generalize hwr : Sta.wr ⟨stext, recent, last, begun⟩ text = sw at *
  unfold Sta.val at HW
  clear hwr
  go_enter Tryd.func35, Tryd.ntmps35
  go_wp2_with fail
  go_region_with ((go_at_call 66; ((with_reducible refine (HW.out _).mono ?_); rintro e w2 ⟨rfl, hf2⟩; have hf02 := ((Fr.refl [] _).drew).trans hf2; have hf12 := fr_four hf02 (by simp); obtain ⟨c00, c01, c02, c03, c10, c11, c12, c13, c14, c20, f20, c21, f21, c22, f22, c23, f23, c30, f30, c31, f31, c32, f32, c33, f33⟩ := four_facts hf02)))
  all_goals
    go_wp2_with fail
    refine bodyPost_ret (v := .tuple #[.agg #[.string ⟨sw.text.toArray⟩, .int .i64 (sw.recent : Int), .string ⟨sw.last.toArray⟩, .bool sw.begun], .agg #[.string ⟨#[]⟩, .int .i64 (text.length : Int), .int .i32 0, .string ⟨#[]⟩], .bool true]) (by simp [results, Tryd.results35, go_sem, c20, c21, c22, c23, c30, c31, c32, c33]) rfl ?_
    have hfs : ∀ w3, Fr [w.heap.size + 1 + 1, w.heap.size + 1 + 1 + 1] w2 w3 → SPost _ _ w (.returned (.tuple #[.agg #[.string ⟨sw.text.toArray⟩, .int .i64 (sw.recent : Int), .string ⟨sw.last.toArray⟩, .bool sw.begun], .agg #[.string ⟨#[]⟩, .int .i64 (text.length : Int), .int .i32 0, .string ⟨#[]⟩], .bool true])) w3 := fun w3 hf3 => ⟨_, _, true, rfl, HM, hf12.trans_of hf3 (by intro i hi; simp only [List.mem_cons, List.not_mem_nil, or_false] at hi; exact .inr (by omega))⟩
    exact hfs _ (by repeat' first | with_reducible exact Fr.refl _ _ | with_reducible refine Fr.drew ?_ | refine Fr.setCell ?_ (.inl (by simp)) _)

set_option maxHeartbeats 4000000 in
set_option maxRecDepth 100000 in
theorem sc_writebyte (hk : o.kind = k_writebyte) : Calls Tryd.prog 35 #[s.val, o.val] w (SPost s o w) := by
  obtain ⟨kind, text, size, n, char⟩ := o
  obtain ⟨stext, recent, last, begun⟩ := s
  obtain ⟨hr6, hl4, hwh⟩ := hs
  obtain ⟨hsz, hn0, hn1, hc0, hc1⟩ := ho
  simp only at hk hr6 hl4 hwh hsz hn0 hn1 hc0 hc1 hl
  subst hk
  have HM := Lib.hid ((callS_of _ _ (by show k_writebyte ≠ k_writerune; decide)).trans (callM_writebyte ⟨stext, recent, last, begun⟩ ⟨k_writebyte, text, size, n, char⟩ rfl))
  try simp only at HM
  have HWH := Lib.hid hwh
  clear hwh
  unfold Sta.val OpV.val
  have HW := Lib.hid fun W => State_written ⟨stext, recent, last, begun⟩ [UInt8.ofNat size] W (by simp; omega)
  have hst := Lib.hid fun W : World => run_string_of (P := Tryd.prog) (W.alloc (.cells #[.int .u8 ((size : Int) % 256)] 5)) 22 9 5 (some ⟨W.heap.size, 0, none⟩) 1 1 [UInt8.ofNat size] Tryd.underlying22 Tryd.underlying5 Tryd.underlying9 rfl (by
    intro j hj
    obtain rfl : j = 0 := by simpa using hj
    refine ⟨_, rfl, ?_⟩
    rw [add_at, Nat.zero_add, cell_of_row _ _ 0 #[.int .u8 ((size : Int) % 256)] 5 (0, 0) (heap_alloc_new W _)]
    simp [bv])
  have hst2 := hst.out ((((w.alloc (.cells #[.string ⟨stext.toArray⟩, .int .i64 (recent : Int), .string ⟨last.toArray⟩, .bool begun] 85)).alloc (.cells #[.string ⟨k_writebyte.toArray⟩, .string ⟨text.toArray⟩, .int .u16 (size : Int), .int .i64 n, .int .i32 char] 29)).alloc (.cells #[.string ⟨#[]⟩, .int .i64 0, .string ⟨#[]⟩, .bool false] 85)).alloc (.cells #[.string ⟨#[]⟩, .int .i64 0, .int .i32 0, .string ⟨#[]⟩] 77))
  simp only [World.size_alloc] at hst2
  generalize hwr : Sta.wr ⟨stext, recent, last, begun⟩ [UInt8.ofNat size] = sw at *
  unfold Sta.val at HW
  clear hwr hst
  go_enter Tryd.func35, Tryd.ntmps35
  go_wp2_with fail
  refine (HW.out _).mono ?_
  rintro e w2 ⟨rfl, hf2⟩
  have hf02 := ((Fr.refl [] _).alloc _).trans hf2
  have hf12 := fr_four hf02 (by simp)
  obtain ⟨c00, c01, c02, c03, c10, c11, c12, c13, c14, c20, f20, c21, f21, c22, f22, c23, f23, c30, f30, c31, f31, c32, f32, c33, f33⟩ := four_facts hf02
  go_wp2_with fail
  refine bodyPost_ret (v := .tuple #[.agg #[.string ⟨sw.text.toArray⟩, .int .i64 (sw.recent : Int), .string ⟨sw.last.toArray⟩, .bool sw.begun], .agg #[.string ⟨#[]⟩, .int .i64 0, .int .i32 0, .string ⟨#[]⟩], .bool true]) (by simp [results, Tryd.results35, go_sem, c20, c21, c22, c23, c30, c31, c32, c33]) rfl ?_
  have hfs : ∀ w3, Fr [w.heap.size + 1 + 1, w.heap.size + 1 + 1 + 1] w2 w3 → SPost _ _ w (.returned (.tuple #[.agg #[.string ⟨sw.text.toArray⟩, .int .i64 (sw.recent : Int), .string ⟨sw.last.toArray⟩, .bool sw.begun], .agg #[.string ⟨#[]⟩, .int .i64 0, .int .i32 0, .string ⟨#[]⟩], .bool true])) w3 := fun w3 hf3 => ⟨_, _, true, rfl, HM, hf12.trans_of hf3 (by intro i hi; simp only [List.mem_cons, List.not_mem_nil, or_false] at hi; exact .inr (by omega))⟩
  exact hfs _ (by repeat' first | with_reducible exact Fr.refl _ _ | with_reducible refine Fr.drew ?_ | refine Fr.setCell ?_ (.inl (by simp)) _)

set_option maxHeartbeats 4000000 in
set_option maxRecDepth 100000 in
theorem sc_writerune_bad (hk : o.kind = k_writerune) (hb : validB o.char = false) : Calls Tryd.prog 35 #[s.val, o.val] w (SPost s o w) := by
  obtain ⟨kind, text, size, n, char⟩ := o
  obtain ⟨stext, recent, last, begun⟩ := s
  obtain ⟨hr6, hl4, hwh⟩ := hs
  obtain ⟨hsz, hn0, hn1, hc0, hc1⟩ := ho
  simp only at hk hr6 hl4 hwh hsz hn0 hn1 hc0 hc1 hl
  subst hk
  simp only at hb
  have HM := Lib.hid (callS_wrong ⟨stext, recent, last, begun⟩ ⟨k_writerune, text, size, n, char⟩ rfl hb)
  try simp only at HM
  have HWH := Lib.hid hwh
  clear hwh
  unfold Sta.val OpV.val
  have HV := Lib.hid fun W => spec_Valid char W hc0 hc1
  rw [hb] at HV
  clear hb
  go_enter Tryd.func35, Tryd.ntmps35
  go_wp2_with fail
  refine (HV.out _).mono ?_
  rintro e w2 ⟨rfl, rfl⟩
  go_wp2_with fail
  refine bodyPost_ret (v := .tuple #[.agg #[.string ⟨stext.toArray⟩, .int .i64 (recent : Int), .string ⟨last.toArray⟩, .bool begun], .agg #[.string ⟨#[]⟩, .int .i64 0, .int .i32 0, .string ⟨#[]⟩], .bool false]) (by simp [results, Tryd.results35, go_sem]) rfl ?_
  exact ⟨_, _, false, rfl, HM, (by repeat' first | with_reducible exact Fr.refl _ _ | with_reducible refine Fr.alloc ?_ _ | with_reducible refine Fr.drew ?_ | refine Fr.setCell ?_ (.inr (by simp)) _)⟩

set_option maxHeartbeats 4000000 in
set_option maxRecDepth 100000 in
theorem sc_writerune_ok (hk : o.kind = k_writerune) (hb : validB o.char = true) : Calls Tryd.prog 35 #[s.val, o.val] w (SPost s o w) := by
  obtain ⟨kind, text, size, n, char⟩ := o
  obtain ⟨stext, recent, last, begun⟩ := s
  obtain ⟨hr6, hl4, hwh⟩ := hs
  obtain ⟨hsz, hn0, hn1, hc0, hc1⟩ := ho
  simp only at hk hr6 hl4 hwh hsz hn0 hn1 hc0 hc1 hl
  subst hk
  simp only at hb
  have HM := Lib.hid ((callS_valid ⟨stext, recent, last, begun⟩ ⟨k_writerune, text, size, n, char⟩ hb).trans (callM_writerune _ _ rfl))
  try simp only at HM
  have HWH := Lib.hid hwh
  clear hwh
  unfold Sta.val OpV.val
  have HV := Lib.hid fun W => spec_Valid char W hc0 hc1
  rw [hb] at HV
  have hel := Lib.runeCells_le char
  rw [Lib.runeCells_length] at hel
  have HE := Lib.hid fun (W : World) (hW : Fr [] ((((w.alloc (.cells #[.string ⟨stext.toArray⟩, .int .i64 (recent : Int), .string ⟨last.toArray⟩, .bool begun] 85)).alloc (.cells #[.string ⟨k_writerune.toArray⟩, .string ⟨text.toArray⟩, .int .u16 (size : Int), .int .i64 n, .int .i32 char] 29)).alloc (.cells #[.string ⟨#[]⟩, .int .i64 0, .string ⟨#[]⟩, .bool false] 85)).alloc (.cells #[.string ⟨#[]⟩, .int .i64 0, .int .i32 0, .string ⟨#[]⟩] 77)) W) => (show Calls Tryd.prog 68 #[.int .i32 char] W (fun e w' => e = .returned (.string ⟨(Lib.encodeRune char).toArray⟩) ∧ Fr [] ((((w.alloc (.cells #[.string ⟨stext.toArray⟩, .int .i64 (recent : Int), .string ⟨last.toArray⟩, .bool begun] 85)).alloc (.cells #[.string ⟨k_writerune.toArray⟩, .string ⟨text.toArray⟩, .int .u16 (size : Int), .int .i64 n, .int .i32 char] 29)).alloc (.cells #[.string ⟨#[]⟩, .int .i64 0, .string ⟨#[]⟩, .bool false] 85)).alloc (.cells #[.string ⟨#[]⟩, .int .i64 0, .int .i32 0, .string ⟨#[]⟩] 77)) w') from (spec_Encode W char hb).mono (by rintro e w' ⟨x, rfl, HX, hf⟩; exact ⟨by rw [HX.out], hW.trans hf⟩))
  have HW := Lib.hid fun (W : World) (hW : Fr [] ((((w.alloc (.cells #[.string ⟨stext.toArray⟩, .int .i64 (recent : Int), .string ⟨last.toArray⟩, .bool begun] 85)).alloc (.cells #[.string ⟨k_writerune.toArray⟩, .string ⟨text.toArray⟩, .int .u16 (size : Int), .int .i64 n, .int .i32 char] 29)).alloc (.cells #[.string ⟨#[]⟩, .int .i64 0, .string ⟨#[]⟩, .bool false] 85)).alloc (.cells #[.string ⟨#[]⟩, .int .i64 0, .int .i32 0, .string ⟨#[]⟩] 77)) W) => (show Calls Tryd.prog 66 #[(Sta.val ⟨stext, recent, last, begun⟩), .string ⟨(Lib.encodeRune char).toArray⟩] W (fun e w' => e = .returned (Sta.wr ⟨stext, recent, last, begun⟩ (Lib.encodeRune char)).val ∧ Fr [] ((((w.alloc (.cells #[.string ⟨stext.toArray⟩, .int .i64 (recent : Int), .string ⟨last.toArray⟩, .bool begun] 85)).alloc (.cells #[.string ⟨k_writerune.toArray⟩, .string ⟨text.toArray⟩, .int .u16 (size : Int), .int .i64 n, .int .i32 char] 29)).alloc (.cells #[.string ⟨#[]⟩, .int .i64 0, .string ⟨#[]⟩, .bool false] 85)).alloc (.cells #[.string ⟨#[]⟩, .int .i64 0, .int .i32 0, .string ⟨#[]⟩] 77)) w') from (State_written ⟨stext, recent, last, begun⟩ (Lib.encodeRune char) W (by simp only; omega)).mono (by rintro e w' ⟨rfl, hf⟩; exact ⟨rfl, hW.trans hf⟩))
  clear hb
  generalize hwr : Sta.wr ⟨stext, recent, last, begun⟩ (Lib.encodeRune char) = sw at *
  generalize hen : Lib.encodeRune char = en at *
  unfold Sta.val at HW
  clear hwr hen
  go_enter Tryd.func35, Tryd.ntmps35
  go_wp2_with fail
  refine (HV.out _).mono ?_
  rintro e w1 ⟨rfl, rfl⟩
  go_wp2_with fail
  go_region_with (first
    | (go_at_call 68; ((with_reducible refine (HE.out _ (by first | assumption | exact (Fr.refl [] _).drew | exact Fr.refl [] _)).mono ?_); rintro e wE ⟨rfl, hfE⟩; obtain ⟨c00, c01, c02, c03, c10, c11, c12, c13, c14, c20, f20, c21, f21, c22, f22, c23, f23, c30, f30, c31, f31, c32, f32, c33, f33⟩ := four_facts hfE))
    | (go_at_call 66; ((with_reducible refine (HW.out _ (by first | assumption | exact (Fr.refl [] _).drew | exact Fr.refl [] _)).mono ?_); rintro e wE ⟨rfl, hfE⟩; obtain ⟨c00, c01, c02, c03, c10, c11, c12, c13, c14, c20, f20, c21, f21, c22, f22, c23, f23, c30, f30, c31, f31, c32, f32, c33, f33⟩ := four_facts hfE)))
  all_goals
    go_wp2_with fail
    refine bodyPost_ret (v := .tuple #[.agg #[.string ⟨sw.text.toArray⟩, .int .i64 (sw.recent : Int), .string ⟨sw.last.toArray⟩, .bool sw.begun], .agg #[.string ⟨#[]⟩, .int .i64 (en.length : Int), .int .i32 0, .string ⟨#[]⟩], .bool true]) (by simp [results, Tryd.results35, go_sem, c20, c21, c22, c23, c30, c31, c32, c33]) rfl ?_
    refine ⟨_, _, true, rfl, HM, ?_⟩
    repeat' refine Fr.setCell ?_ (.inr (by simp; omega)) _
    exact fr_four (S := []) (by assumption) (by simp)

set_option maxHeartbeats 4000000 in
set_option maxRecDepth 100000 in
theorem Call_else (hne : o.kind ∉ ([k_write, k_writestring, k_writebyte, k_writerune, k_len, k_bytes, k_string, k_truncate, k_reset, k_grow] : List (List UInt8))) (h : ∀ W, Calls Tryd.prog 69 #[s.val, o.val] W (SPost s o W)) : Calls Tryd.prog 35 #[s.val, o.val] w (SPost s o w) := by
  have H := Lib.hid h
  clear h
  obtain ⟨kind, text, size, n, char⟩ := o
  obtain ⟨stext, recent, last, begun⟩ := s
  obtain ⟨hr6, hl4, hwh⟩ := hs
  obtain ⟨hsz, hn0, hn1, hc0, hc1⟩ := ho
  simp only at hr6 hl4 hwh hsz hn0 hn1 hc0 hc1 hl
  simp only [List.mem_cons, List.not_mem_nil, or_false, not_or] at hne
  obtain ⟨q0, q1, q2, q3, q4, q5, q6, q7, q8, q9⟩ := hne
  have b0 : (kind == [119, 114, 105, 116, 101]) = false := by simpa using q0
  have b1 : (kind == [119, 114, 105, 116, 101, 115, 116, 114, 105, 110, 103]) = false := by simpa using q1
  have b2 : (kind == [119, 114, 105, 116, 101, 98, 121, 116, 101]) = false := by simpa using q2
  have b3 : (kind == [119, 114, 105, 116, 101, 114, 117, 110, 101]) = false := by simpa using q3
  have b4 : (kind == [108, 101, 110]) = false := by simpa using q4
  have b5 : (kind == [98, 121, 116, 101, 115]) = false := by simpa using q5
  have b6 : (kind == [115, 116, 114, 105, 110, 103]) = false := by simpa using q6
  have b7 : (kind == [116, 114, 117, 110, 99, 97, 116, 101]) = false := by simpa using q7
  have b8 : (kind == [114, 101, 115, 101, 116]) = false := by simpa using q8
  have b9 : (kind == [103, 114, 111, 119]) = false := by simpa using q9
  clear q0 q1 q2 q3 q4 q5 q6 q7 q8 q9
  unfold Sta.val OpV.val
  unfold Sta.val OpV.val at H
  go_enter Tryd.func35, Tryd.ntmps35
  go_wp2_with fail
  refine (H.out _).mono ?_
  rintro e w2 ⟨s', st, ok, rfl, HM, hf02⟩
  have hf12 := fr_four hf02 (by simp)
  obtain ⟨c00, c01, c02, c03, c10, c11, c12, c13, c14, c20, f20, c21, f21, c22, f22, c23, f23, c30, f30, c31, f31, c32, f32, c33, f33⟩ := four_facts hf02
  go_wp2_with fail
  refine bodyPost_ret (v := .tuple #[.agg #[.string ⟨s'.text.toArray⟩, .int .i64 (s'.recent : Int), .string ⟨s'.last.toArray⟩, .bool s'.begun], .agg #[.string ⟨st.text.toArray⟩, .int .i64 st.n, .int .i32 st.char, .string ⟨st.err.toArray⟩], .bool ok]) (by simp [results, Tryd.results35, go_sem, c20, c21, c22, c23, c30, c31, c32, c33]) rfl ?_
  have hfs : ∀ w3, Fr [w.heap.size + 1 + 1, w.heap.size + 1 + 1 + 1] w2 w3 → SPost _ _ w (.returned (.tuple #[.agg #[.string ⟨s'.text.toArray⟩, .int .i64 (s'.recent : Int), .string ⟨s'.last.toArray⟩, .bool s'.begun], .agg #[.string ⟨st.text.toArray⟩, .int .i64 st.n, .int .i32 st.char, .string ⟨st.err.toArray⟩], .bool ok])) w3 := fun w3 hf3 => ⟨_, _, ok, rfl, HM, hf12.trans_of hf3 (by intro i hi; simp only [List.mem_cons, List.not_mem_nil, or_false] at hi; exact .inr (by omega))⟩
  exact hfs _ (by repeat' first | with_reducible exact Fr.refl _ _ | with_reducible refine Fr.drew ?_ | refine Fr.setCell ?_ (.inl (by simp)) _)

end
end Go.Proofs.YtgjaeggpaomoaaaDoor
