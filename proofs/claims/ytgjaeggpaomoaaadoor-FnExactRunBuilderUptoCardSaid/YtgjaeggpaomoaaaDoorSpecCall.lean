/- The reference's calls: all. -/
import Derived.Test.YtgjaeggpaomoaaaDoorSpecC1
import Derived.Test.YtgjaeggpaomoaaaDoorSpecC2
namespace Go.Proofs.YtgjaeggpaomoaaaDoor
open Go.RowKit
set_option linter.unusedVariables false
set_option linter.unusedSectionVars false
attribute [local go_sem ↓] Go.wp_at_zero Go.wp_at_succ

section
variable (s : Sta) (o : OpV) (w : World) (hs : StaOk s) (ho : o.Ok) (hl : s.text.length + o.text.length + 4 ≤ 4194304)
include hs ho hl

set_option maxHeartbeats 4000000 in
set_option maxRecDepth 100000 in
theorem su_unreadbyte_0 (hk : o.kind = k_unreadbyte) (hb : s.recent = 0) : Calls Tryd.prog 88 #[s.val, o.val] w (SPost s o w) := by
  obtain ⟨kind, text, size, n, char⟩ := o
  obtain ⟨stext, recent, last, begun⟩ := s
  obtain ⟨hr6, hl4, hwh⟩ := hs
  obtain ⟨hsz, hn0, hn1, hc0, hc1⟩ := ho
  simp only at hk hr6 hl4 hwh hsz hn0 hn1 hc0 hc1 hl
  subst hk
  simp only at hb
  subst hb
  have HM := Lib.hid ((callS_of _ _ (by show k_unreadbyte ≠ k_writerune; decide)).trans ((callM_unreadbyte ⟨stext, 0, last, begun⟩ ⟨k_unreadbyte, text, size, n, char⟩ rfl).trans ((if_neg (by simp)).trans ((if_neg (by simp)).trans (if_neg (by simp))))))
  try simp only at HM
  have HWH := Lib.hid hwh
  clear hwh
  unfold Sta.val OpV.val
  go_enter Tryd.func88, Tryd.ntmps88
  go_wp2_with fail
  refine bodyPost_ret (v := .tuple #[.agg #[.string ⟨stext.toArray⟩, .int .i64 0, .string ⟨last.toArray⟩, .bool begun], .agg #[.string ⟨#[]⟩, .int .i64 0, .int .i32 0, .string ⟨#[]⟩], .bool false]) (by simp [results, Tryd.results88, go_sem]) rfl ?_
  exact ⟨_, _, false, rfl, HM, (by repeat' first | with_reducible exact Fr.refl _ _ | with_reducible refine Fr.alloc ?_ _ | with_reducible refine Fr.drew ?_ | refine Fr.setCell ?_ (.inr (by simp)) _)⟩

set_option maxHeartbeats 4000000 in
set_option maxRecDepth 100000 in
theorem su_unreadbyte_1 (hk : o.kind = k_unreadbyte) (hb : s.recent = 1) : Calls Tryd.prog 88 #[s.val, o.val] w (SPost s o w) := by
  obtain ⟨kind, text, size, n, char⟩ := o
  obtain ⟨stext, recent, last, begun⟩ := s
  obtain ⟨hr6, hl4, hwh⟩ := hs
  obtain ⟨hsz, hn0, hn1, hc0, hc1⟩ := ho
  simp only at hk hr6 hl4 hwh hsz hn0 hn1 hc0 hc1 hl
  subst hk
  simp only at hb
  subst hb
  have HM := Lib.hid ((callS_of _ _ (by show k_unreadbyte ≠ k_writerune; decide)).trans ((callM_unreadbyte ⟨stext, 1, last, begun⟩ ⟨k_unreadbyte, text, size, n, char⟩ rfl).trans (if_pos rfl)))
  try simp only at HM
  have HWH := Lib.hid hwh
  clear hwh
  unfold Sta.val OpV.val
  have HW := Lib.hid fun W => State_unread ⟨stext, 1, last, begun⟩ W (by simp only; omega)
  unfold Sta.oth Sta.val at HW
  simp only at HW
  go_enter Tryd.func88, Tryd.ntmps88
  go_wp2_with fail
  refine (HW.out _).mono ?_
  rintro e w2 ⟨rfl, hf02⟩
  have hf12 := fr_four hf02 (by simp)
  obtain ⟨c00, c01, c02, c03, c10, c11, c12, c13, c14, c20, f20, c21, f21, c22, f22, c23, f23, c30, f30, c31, f31, c32, f32, c33, f33⟩ := four_facts hf02
  go_wp2_with fail
  refine bodyPost_ret (v := .tuple #[.agg #[.string ⟨(last ++ stext).toArray⟩, .int .i64 6, .string ⟨#[]⟩, .bool begun], .agg #[.string ⟨#[]⟩, .int .i64 0, .int .i32 0, .string ⟨#[]⟩], .bool true]) (by simp [results, Tryd.results88, go_sem, c20, c21, c22, c23, c30, c31, c32, c33]) rfl ?_
  have hfs : ∀ w3, Fr [w.heap.size + 1 + 1, w.heap.size + 1 + 1 + 1] w2 w3 → SPost _ _ w (.returned (.tuple #[.agg #[.string ⟨(last ++ stext).toArray⟩, .int .i64 6, .string ⟨#[]⟩, .bool begun], .agg #[.string ⟨#[]⟩, .int .i64 0, .int .i32 0, .string ⟨#[]⟩], .bool true])) w3 := fun w3 hf3 => ⟨_, _, true, rfl, HM, hf12.trans_of hf3 (by intro i hi; simp only [List.mem_cons, List.not_mem_nil, or_false] at hi; exact .inr (by omega))⟩
  exact hfs _ (by repeat' first | with_reducible exact Fr.refl _ _ | with_reducible refine Fr.drew ?_ | refine Fr.setCell ?_ (.inl (by simp)) _)

set_option maxHeartbeats 4000000 in
set_option maxRecDepth 100000 in
theorem su_unreadbyte_2 (hk : o.kind = k_unreadbyte) (hb : s.recent = 2) : Calls Tryd.prog 88 #[s.val, o.val] w (SPost s o w) := by
  obtain ⟨kind, text, size, n, char⟩ := o
  obtain ⟨stext, recent, last, begun⟩ := s
  obtain ⟨hr6, hl4, hwh⟩ := hs
  obtain ⟨hsz, hn0, hn1, hc0, hc1⟩ := ho
  simp only at hk hr6 hl4 hwh hsz hn0 hn1 hc0 hc1 hl
  subst hk
  simp only at hb
  subst hb
  have HM := Lib.hid ((callS_of _ _ (by show k_unreadbyte ≠ k_writerune; decide)).trans ((callM_unreadbyte ⟨stext, 2, last, begun⟩ ⟨k_unreadbyte, text, size, n, char⟩ rfl).trans ((if_neg (by simp)).trans (if_pos rfl))))
  try simp only at HM
  have HWH := Lib.hid hwh
  clear hwh
  unfold Sta.val OpV.val
  have hq1 := HWH.out rfl
  obtain ⟨q, hq⟩ : ∃ q, last.length = q + 1 := ⟨last.length - 1, by omega⟩
  have hli : (last.length : Int) = (q : Int) + 1 := by omega
  have hdr : last.length - 1 = q := by omega
  rw [hdr] at HM
  have hqi : IntKind.i64.wrap ((q : Int) + 1 - 1) = (q : Int) := by rw [show (q : Int) + 1 - 1 = (q : Int) by omega]; exact IntWalk.i64_in _ (by omega)
  have hql : q ≤ last.length := by omega
  have hq4 : q ≤ 3 := by omega
  have HQ := Lib.hid hq
  clear hq hdr hq1
  go_enter Tryd.func88, Tryd.ntmps88
  go_wp2_with fail
  go_region
  all_goals
    go_wp2_with fail
    refine bodyPost_ret (v := .tuple #[.agg #[.string ⟨(last.drop q ++ stext).toArray⟩, .int .i64 6, .string ⟨#[]⟩, .bool begun], .agg #[.string ⟨#[]⟩, .int .i64 0, .int .i32 0, .string ⟨#[]⟩], .bool true]) (by simp [results, Tryd.results88, go_sem]) rfl ?_
    exact ⟨_, _, true, rfl, HM, (by repeat' first | with_reducible exact Fr.refl _ _ | with_reducible refine Fr.alloc ?_ _ | with_reducible refine Fr.drew ?_ | refine Fr.setCell ?_ (.inr (by simp)) _)⟩

set_option maxHeartbeats 4000000 in
set_option maxRecDepth 100000 in
theorem su_unreadbyte_3 (hk : o.kind = k_unreadbyte) (hb : s.recent = 3) : Calls Tryd.prog 88 #[s.val, o.val] w (SPost s o w) := by
  obtain ⟨kind, text, size, n, char⟩ := o
  obtain ⟨stext, recent, last, begun⟩ := s
  obtain ⟨hr6, hl4, hwh⟩ := hs
  obtain ⟨hsz, hn0, hn1, hc0, hc1⟩ := ho
  simp only at hk hr6 hl4 hwh hsz hn0 hn1 hc0 hc1 hl
  subst hk
  simp only at hb
  subst hb
  have HM := Lib.hid ((callS_of _ _ (by show k_unreadbyte ≠ k_writerune; decide)).trans ((callM_unreadbyte ⟨stext, 3, last, begun⟩ ⟨k_unreadbyte, text, size, n, char⟩ rfl).trans ((if_neg (by simp)).trans ((if_neg (by simp)).trans (if_pos (by simp))))))
  try simp only at HM
  have HWH := Lib.hid hwh
  clear hwh
  unfold Sta.val OpV.val
  go_enter Tryd.func88, Tryd.ntmps88
  go_wp2_with fail
  refine bodyPost_ret (v := .tuple #[.agg #[.string ⟨stext.toArray⟩, .int .i64 3, .string ⟨last.toArray⟩, .bool begun], .agg #[.string ⟨#[]⟩, .int .i64 0, .int .i32 0, .string ⟨#[101, 114, 114, 111, 114]⟩], .bool true]) (by simp [results, Tryd.results88, go_sem]) rfl ?_
  exact ⟨_, _, true, rfl, HM, (by repeat' first | with_reducible exact Fr.refl _ _ | with_reducible refine Fr.alloc ?_ _ | with_reducible refine Fr.drew ?_ | refine Fr.setCell ?_ (.inr (by simp)) _)⟩

set_option maxHeartbeats 4000000 in
set_option maxRecDepth 100000 in
theorem su_unreadbyte_4 (hk : o.kind = k_unreadbyte) (hb : s.recent = 4) : Calls Tryd.prog 88 #[s.val, o.val] w (SPost s o w) := by
  obtain ⟨kind, text, size, n, char⟩ := o
  obtain ⟨stext, recent, last, begun⟩ := s
  obtain ⟨hr6, hl4, hwh⟩ := hs
  obtain ⟨hsz, hn0, hn1, hc0, hc1⟩ := ho
  simp only at hk hr6 hl4 hwh hsz hn0 hn1 hc0 hc1 hl
  subst hk
  simp only at hb
  subst hb
  have HM := Lib.hid ((callS_of _ _ (by show k_unreadbyte ≠ k_writerune; decide)).trans ((callM_unreadbyte ⟨stext, 4, last, begun⟩ ⟨k_unreadbyte, text, size, n, char⟩ rfl).trans ((if_neg (by simp)).trans ((if_neg (by simp)).trans (if_pos (by simp))))))
  try simp only at HM
  have HWH := Lib.hid hwh
  clear hwh
  unfold Sta.val OpV.val
  go_enter Tryd.func88, Tryd.ntmps88
  go_wp2_with fail
  refine bodyPost_ret (v := .tuple #[.agg #[.string ⟨stext.toArray⟩, .int .i64 4, .string ⟨last.toArray⟩, .bool begun], .agg #[.string ⟨#[]⟩, .int .i64 0, .int .i32 0, .string ⟨#[101, 114, 114, 111, 114]⟩], .bool true]) (by simp [results, Tryd.results88, go_sem]) rfl ?_
  exact ⟨_, _, true, rfl, HM, (by repeat' first | with_reducible exact Fr.refl _ _ | with_reducible refine Fr.alloc ?_ _ | with_reducible refine Fr.drew ?_ | refine Fr.setCell ?_ (.inr (by simp)) _)⟩

set_option maxHeartbeats 4000000 in
set_option maxRecDepth 100000 in
theorem su_unreadbyte_5 (hk : o.kind = k_unreadbyte) (hb : s.recent = 5) : Calls Tryd.prog 88 #[s.val, o.val] w (SPost s o w) := by
  obtain ⟨kind, text, size, n, char⟩ := o
  obtain ⟨stext, recent, last, begun⟩ := s
  obtain ⟨hr6, hl4, hwh⟩ := hs
  obtain ⟨hsz, hn0, hn1, hc0, hc1⟩ := ho
  simp only at hk hr6 hl4 hwh hsz hn0 hn1 hc0 hc1 hl
  subst hk
  simp only at hb
  subst hb
  have HM := Lib.hid ((callS_of _ _ (by show k_unreadbyte ≠ k_writerune; decide)).trans ((callM_unreadbyte ⟨stext, 5, last, begun⟩ ⟨k_unreadbyte, text, size, n, char⟩ rfl).trans ((if_neg (by simp)).trans ((if_neg (by simp)).trans (if_neg (by simp))))))
  try simp only at HM
  have HWH := Lib.hid hwh
  clear hwh
  unfold Sta.val OpV.val
  go_enter Tryd.func88, Tryd.ntmps88
  go_wp2_with fail
  refine bodyPost_ret (v := .tuple #[.agg #[.string ⟨stext.toArray⟩, .int .i64 5, .string ⟨last.toArray⟩, .bool begun], .agg #[.string ⟨#[]⟩, .int .i64 0, .int .i32 0, .string ⟨#[]⟩], .bool false]) (by simp [results, Tryd.results88, go_sem]) rfl ?_
  exact ⟨_, _, false, rfl, HM, (by repeat' first | with_reducible exact Fr.refl _ _ | with_reducible refine Fr.alloc ?_ _ | with_reducible refine Fr.drew ?_ | refine Fr.setCell ?_ (.inr (by simp)) _)⟩

set_option maxHeartbeats 4000000 in
set_option maxRecDepth 100000 in
theorem su_unreadbyte_6 (hk : o.kind = k_unreadbyte) (hb : s.recent = 6) : Calls Tryd.prog 88 #[s.val, o.val] w (SPost s o w) := by
  obtain ⟨kind, text, size, n, char⟩ := o
  obtain ⟨stext, recent, last, begun⟩ := s
  obtain ⟨hr6, hl4, hwh⟩ := hs
  obtain ⟨hsz, hn0, hn1, hc0, hc1⟩ := ho
  simp only at hk hr6 hl4 hwh hsz hn0 hn1 hc0 hc1 hl
  subst hk
  simp only at hb
  subst hb
  have HM := Lib.hid ((callS_of _ _ (by show k_unreadbyte ≠ k_writerune; decide)).trans ((callM_unreadbyte ⟨stext, 6, last, begun⟩ ⟨k_unreadbyte, text, size, n, char⟩ rfl).trans ((if_neg (by simp)).trans ((if_neg (by simp)).trans (if_neg (by simp))))))
  try simp only at HM
  have HWH := Lib.hid hwh
  clear hwh
  unfold Sta.val OpV.val
  go_enter Tryd.func88, Tryd.ntmps88
  go_wp2_with fail
  refine bodyPost_ret (v := .tuple #[.agg #[.string ⟨stext.toArray⟩, .int .i64 6, .string ⟨last.toArray⟩, .bool begun], .agg #[.string ⟨#[]⟩, .int .i64 0, .int .i32 0, .string ⟨#[]⟩], .bool false]) (by simp [results, Tryd.results88, go_sem]) rfl ?_
  exact ⟨_, _, false, rfl, HM, (by repeat' first | with_reducible exact Fr.refl _ _ | with_reducible refine Fr.alloc ?_ _ | with_reducible refine Fr.drew ?_ | refine Fr.setCell ?_ (.inr (by simp)) _)⟩

set_option maxHeartbeats 4000000 in
set_option maxRecDepth 100000 in
theorem su_unreadrune_0 (hk : o.kind = k_unreadrune) (hb : s.recent = 0) : Calls Tryd.prog 88 #[s.val, o.val] w (SPost s o w) := by
  obtain ⟨kind, text, size, n, char⟩ := o
  obtain ⟨stext, recent, last, begun⟩ := s
  obtain ⟨hr6, hl4, hwh⟩ := hs
  obtain ⟨hsz, hn0, hn1, hc0, hc1⟩ := ho
  simp only at hk hr6 hl4 hwh hsz hn0 hn1 hc0 hc1 hl
  subst hk
  simp only at hb
  subst hb
  have HM := Lib.hid ((callS_of _ _ (by show k_unreadrune ≠ k_writerune; decide)).trans ((callM_unreadrune ⟨stext, 0, last, begun⟩ ⟨k_unreadrune, text, size, n, char⟩ rfl).trans ((if_neg (by simp)).trans (if_pos (by simp)))))
  try simp only at HM
  have HWH := Lib.hid hwh
  clear hwh
  unfold Sta.val OpV.val
  go_enter Tryd.func88, Tryd.ntmps88
  go_wp2_with fail
  refine bodyPost_ret (v := .tuple #[.agg #[.string ⟨stext.toArray⟩, .int .i64 0, .string ⟨last.toArray⟩, .bool begun], .agg #[.string ⟨#[]⟩, .int .i64 0, .int .i32 0, .string ⟨#[]⟩], .bool false]) (by simp [results, Tryd.results88, go_sem]) rfl ?_
  exact ⟨_, _, false, rfl, HM, (by repeat' first | with_reducible exact Fr.refl _ _ | with_reducible refine Fr.alloc ?_ _ | with_reducible refine Fr.drew ?_ | refine Fr.setCell ?_ (.inr (by simp)) _)⟩

set_option maxHeartbeats 4000000 in
set_option maxRecDepth 100000 in
theorem su_unreadrune_1 (hk : o.kind = k_unreadrune) (hb : s.recent = 1) : Calls Tryd.prog 88 #[s.val, o.val] w (SPost s o w) := by
  obtain ⟨kind, text, size, n, char⟩ := o
  obtain ⟨stext, recent, last, begun⟩ := s
  obtain ⟨hr6, hl4, hwh⟩ := hs
  obtain ⟨hsz, hn0, hn1, hc0, hc1⟩ := ho
  simp only at hk hr6 hl4 hwh hsz hn0 hn1 hc0 hc1 hl
  subst hk
  simp only at hb
  subst hb
  have HM := Lib.hid ((callS_of _ _ (by show k_unreadrune ≠ k_writerune; decide)).trans ((callM_unreadrune ⟨stext, 1, last, begun⟩ ⟨k_unreadrune, text, size, n, char⟩ rfl).trans ((if_neg (by simp)).trans (if_neg (by simp)))))
  try simp only at HM
  have HWH := Lib.hid hwh
  clear hwh
  unfold Sta.val OpV.val
  go_enter Tryd.func88, Tryd.ntmps88
  go_wp2_with fail
  refine bodyPost_ret (v := .tuple #[.agg #[.string ⟨stext.toArray⟩, .int .i64 1, .string ⟨last.toArray⟩, .bool begun], .agg #[.string ⟨#[]⟩, .int .i64 0, .int .i32 0, .string ⟨#[101, 114, 114, 111, 114]⟩], .bool true]) (by simp [results, Tryd.results88, go_sem]) rfl ?_
  exact ⟨_, _, true, rfl, HM, (by repeat' first | with_reducible exact Fr.refl _ _ | with_reducible refine Fr.alloc ?_ _ | with_reducible refine Fr.drew ?_ | refine Fr.setCell ?_ (.inr (by simp)) _)⟩

set_option maxHeartbeats 4000000 in
set_option maxRecDepth 100000 in
theorem su_unreadrune_2 (hk : o.kind = k_unreadrune) (hb : s.recent = 2) : Calls Tryd.prog 88 #[s.val, o.val] w (SPost s o w) := by
  obtain ⟨kind, text, size, n, char⟩ := o
  obtain ⟨stext, recent, last, begun⟩ := s
  obtain ⟨hr6, hl4, hwh⟩ := hs
  obtain ⟨hsz, hn0, hn1, hc0, hc1⟩ := ho
  simp only at hk hr6 hl4 hwh hsz hn0 hn1 hc0 hc1 hl
  subst hk
  simp only at hb
  subst hb
  have HM := Lib.hid ((callS_of _ _ (by show k_unreadrune ≠ k_writerune; decide)).trans ((callM_unreadrune ⟨stext, 2, last, begun⟩ ⟨k_unreadrune, text, size, n, char⟩ rfl).trans (if_pos rfl)))
  try simp only at HM
  have HWH := Lib.hid hwh
  clear hwh
  unfold Sta.val OpV.val
  have HW := Lib.hid fun W => State_unread ⟨stext, 2, last, begun⟩ W (by simp only; omega)
  unfold Sta.oth Sta.val at HW
  simp only at HW
  go_enter Tryd.func88, Tryd.ntmps88
  go_wp2_with fail
  refine (HW.out _).mono ?_
  rintro e w2 ⟨rfl, hf02⟩
  have hf12 := fr_four hf02 (by simp)
  obtain ⟨c00, c01, c02, c03, c10, c11, c12, c13, c14, c20, f20, c21, f21, c22, f22, c23, f23, c30, f30, c31, f31, c32, f32, c33, f33⟩ := four_facts hf02
  go_wp2_with fail
  refine bodyPost_ret (v := .tuple #[.agg #[.string ⟨(last ++ stext).toArray⟩, .int .i64 6, .string ⟨#[]⟩, .bool begun], .agg #[.string ⟨#[]⟩, .int .i64 0, .int .i32 0, .string ⟨#[]⟩], .bool true]) (by simp [results, Tryd.results88, go_sem, c20, c21, c22, c23, c30, c31, c32, c33]) rfl ?_
  have hfs : ∀ w3, Fr [w.heap.size + 1 + 1, w.heap.size + 1 + 1 + 1] w2 w3 → SPost _ _ w (.returned (.tuple #[.agg #[.string ⟨(last ++ stext).toArray⟩, .int .i64 6, .string ⟨#[]⟩, .bool begun], .agg #[.string ⟨#[]⟩, .int .i64 0, .int .i32 0, .string ⟨#[]⟩], .bool true])) w3 := fun w3 hf3 => ⟨_, _, true, rfl, HM, hf12.trans_of hf3 (by intro i hi; simp only [List.mem_cons, List.not_mem_nil, or_false] at hi; exact .inr (by omega))⟩
  exact hfs _ (by repeat' first | with_reducible exact Fr.refl _ _ | with_reducible refine Fr.drew ?_ | refine Fr.setCell ?_ (.inl (by simp)) _)

set_option maxHeartbeats 4000000 in
set_option maxRecDepth 100000 in
theorem su_unreadrune_3 (hk : o.kind = k_unreadrune) (hb : s.recent = 3) : Calls Tryd.prog 88 #[s.val, o.val] w (SPost s o w) := by
  obtain ⟨kind, text, size, n, char⟩ := o
  obtain ⟨stext, recent, last, begun⟩ := s
  obtain ⟨hr6, hl4, hwh⟩ := hs
  obtain ⟨hsz, hn0, hn1, hc0, hc1⟩ := ho
  simp only at hk hr6 hl4 hwh hsz hn0 hn1 hc0 hc1 hl
  subst hk
  simp only at hb
  subst hb
  have HM := Lib.hid ((callS_of _ _ (by show k_unreadrune ≠ k_writerune; decide)).trans ((callM_unreadrune ⟨stext, 3, last, begun⟩ ⟨k_unreadrune, text, size, n, char⟩ rfl).trans ((if_neg (by simp)).trans (if_neg (by simp)))))
  try simp only at HM
  have HWH := Lib.hid hwh
  clear hwh
  unfold Sta.val OpV.val
  go_enter Tryd.func88, Tryd.ntmps88
  go_wp2_with fail
  refine bodyPost_ret (v := .tuple #[.agg #[.string ⟨stext.toArray⟩, .int .i64 3, .string ⟨last.toArray⟩, .bool begun], .agg #[.string ⟨#[]⟩, .int .i64 0, .int .i32 0, .string ⟨#[101, 114, 114, 111, 114]⟩], .bool true]) (by simp [results, Tryd.results88, go_sem]) rfl ?_
  exact ⟨_, _, true, rfl, HM, (by repeat' first | with_reducible exact Fr.refl _ _ | with_reducible refine Fr.alloc ?_ _ | with_reducible refine Fr.drew ?_ | refine Fr.setCell ?_ (.inr (by simp)) _)⟩

set_option maxHeartbeats 4000000 in
set_option maxRecDepth 100000 in
theorem su_unreadrune_4 (hk : o.kind = k_unreadrune) (hb : s.recent = 4) : Calls Tryd.prog 88 #[s.val, o.val] w (SPost s o w) := by
  obtain ⟨kind, text, size, n, char⟩ := o
  obtain ⟨stext, recent, last, begun⟩ := s
  obtain ⟨hr6, hl4, hwh⟩ := hs
  obtain ⟨hsz, hn0, hn1, hc0, hc1⟩ := ho
  simp only at hk hr6 hl4 hwh hsz hn0 hn1 hc0 hc1 hl
  subst hk
  simp only at hb
  subst hb
  have HM := Lib.hid ((callS_of _ _ (by show k_unreadrune ≠ k_writerune; decide)).trans ((callM_unreadrune ⟨stext, 4, last, begun⟩ ⟨k_unreadrune, text, size, n, char⟩ rfl).trans ((if_neg (by simp)).trans (if_neg (by simp)))))
  try simp only at HM
  have HWH := Lib.hid hwh
  clear hwh
  unfold Sta.val OpV.val
  go_enter Tryd.func88, Tryd.ntmps88
  go_wp2_with fail
  refine bodyPost_ret (v := .tuple #[.agg #[.string ⟨stext.toArray⟩, .int .i64 4, .string ⟨last.toArray⟩, .bool begun], .agg #[.string ⟨#[]⟩, .int .i64 0, .int .i32 0, .string ⟨#[101, 114, 114, 111, 114]⟩], .bool true]) (by simp [results, Tryd.results88, go_sem]) rfl ?_
  exact ⟨_, _, true, rfl, HM, (by repeat' first | with_reducible exact Fr.refl _ _ | with_reducible refine Fr.alloc ?_ _ | with_reducible refine Fr.drew ?_ | refine Fr.setCell ?_ (.inr (by simp)) _)⟩

set_option maxHeartbeats 4000000 in
set_option maxRecDepth 100000 in
theorem su_unreadrune_5 (hk : o.kind = k_unreadrune) (hb : s.recent = 5) : Calls Tryd.prog 88 #[s.val, o.val] w (SPost s o w) := by
  obtain ⟨kind, text, size, n, char⟩ := o
  obtain ⟨stext, recent, last, begun⟩ := s
  obtain ⟨hr6, hl4, hwh⟩ := hs
  obtain ⟨hsz, hn0, hn1, hc0, hc1⟩ := ho
  simp only at hk hr6 hl4 hwh hsz hn0 hn1 hc0 hc1 hl
  subst hk
  simp only at hb
  subst hb
  have HM := Lib.hid ((callS_of _ _ (by show k_unreadrune ≠ k_writerune; decide)).trans ((callM_unreadrune ⟨stext, 5, last, begun⟩ ⟨k_unreadrune, text, size, n, char⟩ rfl).trans ((if_neg (by simp)).trans (if_neg (by simp)))))
  try simp only at HM
  have HWH := Lib.hid hwh
  clear hwh
  unfold Sta.val OpV.val
  go_enter Tryd.func88, Tryd.ntmps88
  go_wp2_with fail
  refine bodyPost_ret (v := .tuple #[.agg #[.string ⟨stext.toArray⟩, .int .i64 5, .string ⟨last.toArray⟩, .bool begun], .agg #[.string ⟨#[]⟩, .int .i64 0, .int .i32 0, .string ⟨#[101, 114, 114, 111, 114]⟩], .bool true]) (by simp [results, Tryd.results88, go_sem]) rfl ?_
  exact ⟨_, _, true, rfl, HM, (by repeat' first | with_reducible exact Fr.refl _ _ | with_reducible refine Fr.alloc ?_ _ | with_reducible refine Fr.drew ?_ | refine Fr.setCell ?_ (.inr (by simp)) _)⟩

set_option maxHeartbeats 4000000 in
set_option maxRecDepth 100000 in
theorem su_unreadrune_6 (hk : o.kind = k_unreadrune) (hb : s.recent = 6) : Calls Tryd.prog 88 #[s.val, o.val] w (SPost s o w) := by
  obtain ⟨kind, text, size, n, char⟩ := o
  obtain ⟨stext, recent, last, begun⟩ := s
  obtain ⟨hr6, hl4, hwh⟩ := hs
  obtain ⟨hsz, hn0, hn1, hc0, hc1⟩ := ho
  simp only at hk hr6 hl4 hwh hsz hn0 hn1 hc0 hc1 hl
  subst hk
  simp only at hb
  subst hb
  have HM := Lib.hid ((callS_of _ _ (by show k_unreadrune ≠ k_writerune; decide)).trans ((callM_unreadrune ⟨stext, 6, last, begun⟩ ⟨k_unreadrune, text, size, n, char⟩ rfl).trans ((if_neg (by simp)).trans (if_pos (by simp)))))
  try simp only at HM
  have HWH := Lib.hid hwh
  clear hwh
  unfold Sta.val OpV.val
  go_enter Tryd.func88, Tryd.ntmps88
  go_wp2_with fail
  refine bodyPost_ret (v := .tuple #[.agg #[.string ⟨stext.toArray⟩, .int .i64 6, .string ⟨last.toArray⟩, .bool begun], .agg #[.string ⟨#[]⟩, .int .i64 0, .int .i32 0, .string ⟨#[]⟩], .bool false]) (by simp [results, Tryd.results88, go_sem]) rfl ?_
  exact ⟨_, _, false, rfl, HM, (by repeat' first | with_reducible exact Fr.refl _ _ | with_reducible refine Fr.alloc ?_ _ | with_reducible refine Fr.drew ?_ | refine Fr.setCell ?_ (.inr (by simp)) _)⟩

set_option maxHeartbeats 4000000 in
set_option maxRecDepth 100000 in
theorem su_none (hne : o.kind ∉ ([k_write, k_writestring, k_writebyte, k_writerune, k_len, k_bytes, k_string, k_truncate, k_reset, k_grow, k_read, k_next, k_peek, k_readbyte, k_readbytes, k_readstring, k_readrune, k_unreadbyte, k_unreadrune] : List (List UInt8))) : Calls Tryd.prog 88 #[s.val, o.val] w (SPost s o w) := by
  have hne2 := hne
  simp only [List.mem_cons, List.not_mem_nil, or_false, not_or] at hne2
  obtain ⟨n0, n1, n2, n3, n4, n5, n6, n7, n8, n9, n10, n11, n12, n13, n14, n15, n16, n17, n18⟩ := hne2
  have HM := Lib.hid ((callS_of s o n3).trans (callM_none s o n0 n1 n2 n3 n4 n5 n6 n7 n8 n9 n10 n11 n12 n13 n14 n15 n16 n17 n18))
  obtain ⟨kind, text, size, n, char⟩ := o
  obtain ⟨stext, recent, last, begun⟩ := s
  simp only at n17 n18
  have b0 : (kind == [117, 110, 114, 101, 97, 100, 98, 121, 116, 101]) = false := by simpa using n17
  have b1 : (kind == [117, 110, 114, 101, 97, 100, 114, 117, 110, 101]) = false := by simpa using n18
  clear hne n0 n1 n2 n3 n4 n5 n6 n7 n8 n9 n10 n11 n12 n13 n14 n15 n16 n17 n18
  unfold Sta.val OpV.val
  go_enter Tryd.func88, Tryd.ntmps88
  go_wp2_with fail
  refine bodyPost_ret (v := .tuple #[.agg #[.string ⟨stext.toArray⟩, .int .i64 (recent : Int), .string ⟨last.toArray⟩, .bool begun], .agg #[.string ⟨#[]⟩, .int .i64 0, .int .i32 0, .string ⟨#[]⟩], .bool false]) (by simp [results, Tryd.results88, go_sem]) rfl ?_
  exact ⟨_, _, false, rfl, HM, (by repeat' first | with_reducible exact Fr.refl _ _ | with_reducible refine Fr.alloc ?_ _ | with_reducible refine Fr.drew ?_ | refine Fr.setCell ?_ (.inr (by simp)) _)⟩

theorem spec_unreading (hne : o.kind ∉ ([k_write, k_writestring, k_writebyte, k_writerune, k_len, k_bytes, k_string, k_truncate, k_reset, k_grow, k_read, k_next, k_peek, k_readbyte, k_readbytes, k_readstring, k_readrune] : List (List UInt8))) : Calls Tryd.prog 88 #[s.val, o.val] w (SPost s o w) := by
  have h6 := hs.recent
  by_cases h1 : o.kind = k_unreadbyte
  · rcases (show s.recent = 0 ∨ s.recent = 1 ∨ s.recent = 2 ∨ s.recent = 3 ∨ s.recent = 4 ∨ s.recent = 5 ∨ s.recent = 6 by omega) with e | e | e | e | e | e | e
    · exact su_unreadbyte_0 s o w hs ho hl h1 e
    · exact su_unreadbyte_1 s o w hs ho hl h1 e
    · exact su_unreadbyte_2 s o w hs ho hl h1 e
    · exact su_unreadbyte_3 s o w hs ho hl h1 e
    · exact su_unreadbyte_4 s o w hs ho hl h1 e
    · exact su_unreadbyte_5 s o w hs ho hl h1 e
    · exact su_unreadbyte_6 s o w hs ho hl h1 e
  by_cases h2 : o.kind = k_unreadrune
  · rcases (show s.recent = 0 ∨ s.recent = 1 ∨ s.recent = 2 ∨ s.recent = 3 ∨ s.recent = 4 ∨ s.recent = 5 ∨ s.recent = 6 by omega) with e | e | e | e | e | e | e
    · exact su_unreadrune_0 s o w hs ho hl h2 e
    · exact su_unreadrune_1 s o w hs ho hl h2 e
    · exact su_unreadrune_2 s o w hs ho hl h2 e
    · exact su_unreadrune_3 s o w hs ho hl h2 e
    · exact su_unreadrune_4 s o w hs ho hl h2 e
    · exact su_unreadrune_5 s o w hs ho hl h2 e
    · exact su_unreadrune_6 s o w hs ho hl h2 e
  · exact su_none s o w hs ho hl (by simp only [List.mem_cons, List.not_mem_nil, or_false, not_or] at hne ⊢; simp only [hne, h1, h2, not_false_eq_true, and_self])
theorem spec_reading (hne : o.kind ∉ ([k_write, k_writestring, k_writebyte, k_writerune, k_len, k_bytes, k_string, k_truncate, k_reset, k_grow] : List (List UInt8))) : Calls Tryd.prog 69 #[s.val, o.val] w (SPost s o w) := by
  by_cases hr : o.kind ∈ ([k_read, k_next, k_peek, k_readbyte, k_readbytes, k_readstring, k_readrune] : List (List UInt8))
  · simp only [List.mem_cons, List.not_mem_nil, or_false] at hr
    rcases hr with e | e | e | e | e | e | e
    · by_cases h0 : s.text = []
      · by_cases h1 : 0 < o.size
        · exact sr_read_end s o w hs ho hl e ⟨h0, h1⟩
        · exact sr_read_zero s o w hs ho hl e h0 h1
      · exact sr_read_some s o w hs ho hl e h0
    · exact sr_next s o w hs ho hl e
    · by_cases h0 : s.text.length < o.size
      · exact sr_peek_end s o w hs ho hl e h0
      · exact sr_peek_ok s o w hs ho hl e h0
    · by_cases h0 : s.text = []
      · exact sr_readbyte_eof s o w hs ho hl e h0
      · exact sr_readbyte_some s o w hs ho hl e h0
    · by_cases h0 : misses s.text (UInt8.ofNat o.size) = true
      · exact sr_readbytes_miss s o w hs ho hl e h0
      · exact sr_readbytes_hit s o w hs ho hl e h0
    · by_cases h0 : misses s.text (UInt8.ofNat o.size) = true
      · exact sr_readstring_miss s o w hs ho hl e h0
      · exact sr_readstring_hit s o w hs ho hl e h0
    · by_cases h0 : s.text = []
      · exact sr_readrune_eof s o w hs ho hl e h0
      · exact sr_readrune_some s o w hs ho hl e h0
  · exact reading_else s o w hs ho hl hr (fun W => spec_unreading s o W hs ho hl (by simp only [List.mem_cons, List.not_mem_nil, or_false, not_or] at hne hr ⊢; simp only [hne, hr, not_false_eq_true, and_self]))
theorem spec_Call : Calls Tryd.prog 35 #[s.val, o.val] w (SPost s o w) := by
  by_cases hr : o.kind ∈ ([k_write, k_writestring, k_writebyte, k_writerune, k_len, k_bytes, k_string, k_truncate, k_reset, k_grow] : List (List UInt8))
  · simp only [List.mem_cons, List.not_mem_nil, or_false] at hr
    rcases hr with e | e | e | e | e | e | e | e | e | e
    · exact sc_write s o w hs ho hl e
    · exact sc_writestring s o w hs ho hl e
    · exact sc_writebyte s o w hs ho hl e
    · cases hv : validB o.char
      · exact sc_writerune_bad s o w hs ho hl e hv
      · exact sc_writerune_ok s o w hs ho hl e hv
    · exact sc_len s o w hs ho hl e
    · exact sc_bytes s o w hs ho hl e
    · exact sc_string s o w hs ho hl e
    · by_cases h1 : o.n < 0
      · exact sc_truncate_neg s o w hs ho hl e h1
      · by_cases h2 : (s.text.length : Int) < o.n
        · exact sc_truncate_far s o w hs ho hl e h1 h2
        · exact sc_truncate_ok s o w hs ho hl e h1 h2
    · exact sc_reset s o w hs ho hl e
    · by_cases h1 : o.n < 0
      · exact sc_grow_bad s o w hs ho hl e h1
      · exact sc_grow_ok s o w hs ho hl e h1
  · exact Call_else s o w hs ho hl hr (fun W => spec_reading s o W hs ho hl hr)

end
end Go.Proofs.YtgjaeggpaomoaaaDoor
