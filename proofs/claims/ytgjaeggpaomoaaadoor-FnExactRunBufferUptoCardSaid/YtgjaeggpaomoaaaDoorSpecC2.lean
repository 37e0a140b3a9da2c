/- The reference's calls that read. -/
import Derived.Test.YtgjaeggpaomoaaaDoorSpecC0
import Derived.Test.YtgjaeggpaomoaaaDoorDec
import Derived.Test.YtgjaeggpaomoaaaDoorLawI
namespace Go.Proofs.YtgjaeggpaomoaaaDoor
open Go.RowKit
set_option linter.unusedVariables false
set_option linter.unusedSectionVars false
attribute [local go_sem ↓] Go.wp_at_zero Go.wp_at_succ

section
variable (s : Sta) (o : OpV) (w : World) (hs : StaOk s) (ho : o.Ok) (hl : s.text.length + o.text.length + 4 ≤ 4194304)
include hs ho hl

set_option maxHeartbeats 4000000 in
set_option maxRecDepth 100000 in
theorem reading_else (hne : o.kind ∉ ([k_read, k_next, k_peek, k_readbyte, k_readbytes, k_readstring, k_readrune] : List (List UInt8))) (h : ∀ W, Calls Tryd.prog 88 #[s.val, o.val] W (SPost s o W)) : Calls Tryd.prog 69 #[s.val, o.val] w (SPost s o w) := by
  have H := Lib.hid h
  clear h
  obtain ⟨kind, text, size, n, char⟩ := o
  obtain ⟨stext, recent, last, begun⟩ := s
  obtain ⟨hr6, hl4, hwh⟩ := hs
  obtain ⟨hsz, hn0, hn1, hc0, hc1⟩ := ho
  simp only at hr6 hl4 hwh hsz hn0 hn1 hc0 hc1 hl
  simp only [List.mem_cons, List.not_mem_nil, or_false, not_or] at hne
  obtain ⟨q0, q1, q2, q3, q4, q5, q6⟩ := hne
  have b0 : (kind == [114, 101, 97, 100]) = false := by simpa using q0
  have b1 : (kind == [110, 101, 120, 116]) = false := by simpa using q1
  have b2 : (kind == [112, 101, 101, 107]) = false := by simpa using q2
  have b3 : (kind == [114, 101, 97, 100, 98, 121, 116, 101]) = false := by simpa using q3
  have b4 : (kind == [114, 101, 97, 100, 98, 121, 116, 101, 115]) = false := by simpa using q4
  have b5 : (kind == [114, 101, 97, 100, 115, 116, 114, 105, 110, 103]) = false := by simpa using q5
  have b6 : (kind == [114, 101, 97, 100, 114, 117, 110, 101]) = false := by simpa using q6
  clear q0 q1 q2 q3 q4 q5 q6
  unfold Sta.val OpV.val
  unfold Sta.val OpV.val at H
  obtain ⟨mm, hmm⟩ : ∃ mm, min size stext.length = mm := ⟨_, rfl⟩
  have hmi : min (size : Int) (stext.length : Int) = (mm : Int) := by omega
  have hml : mm ≤ stext.length := by omega
  go_enter Tryd.func69, Tryd.ntmps69
  go_wp2_with fail
  refine (H.out _).mono ?_
  rintro e w2 ⟨s', st, ok, rfl, HM, hf02⟩
  have hf12 := fr_four hf02 (by simp)
  obtain ⟨c00, c01, c02, c03, c10, c11, c12, c13, c14, c20, f20, c21, f21, c22, f22, c23, f23, c30, f30, c31, f31, c32, f32, c33, f33⟩ := four_facts hf02
  go_wp2_with fail
  refine bodyPost_ret (v := .tuple #[.agg #[.string ⟨s'.text.toArray⟩, .int .i64 (s'.recent : Int), .string ⟨s'.last.toArray⟩, .bool s'.begun], .agg #[.string ⟨st.text.toArray⟩, .int .i64 st.n, .int .i32 st.char, .string ⟨st.err.toArray⟩], .bool ok]) (by simp [results, Tryd.results69, go_sem, c20, c21, c22, c23, c30, c31, c32, c33]) rfl ?_
  have hfs : ∀ w3, Fr [w.heap.size + 1 + 1, w.heap.size + 1 + 1 + 1] w2 w3 → SPost _ _ w (.returned (.tuple #[.agg #[.string ⟨s'.text.toArray⟩, .int .i64 (s'.recent : Int), .string ⟨s'.last.toArray⟩, .bool s'.begun], .agg #[.string ⟨st.text.toArray⟩, .int .i64 st.n, .int .i32 st.char, .string ⟨st.err.toArray⟩], .bool ok])) w3 := fun w3 hf3 => ⟨_, _, ok, rfl, HM, hf12.trans_of hf3 (by intro i hi; simp only [List.mem_cons, List.not_mem_nil, or_false] at hi; exact .inr (by omega))⟩
  exact hfs _ (by repeat' first | with_reducible exact Fr.refl _ _ | with_reducible refine Fr.drew ?_ | refine Fr.setCell ?_ (.inl (by simp)) _)

set_option maxHeartbeats 4000000 in
set_option maxRecDepth 100000 in
theorem sr_next (hk : o.kind = k_next) : Calls Tryd.prog 69 #[s.val, o.val] w (SPost s o w) := by
  obtain ⟨kind, text, size, n, char⟩ := o
  obtain ⟨stext, recent, last, begun⟩ := s
  obtain ⟨hr6, hl4, hwh⟩ := hs
  obtain ⟨hsz, hn0, hn1, hc0, hc1⟩ := ho
  simp only at hk hr6 hl4 hwh hsz hn0 hn1 hc0 hc1 hl
  subst hk
  have HM := Lib.hid ((callS_of _ _ (by show k_next ≠ k_writerune; decide)).trans (callM_next ⟨stext, recent, last, begun⟩ ⟨k_next, text, size, n, char⟩ rfl))
  try simp only at HM
  have HWH := Lib.hid hwh
  clear hwh
  unfold Sta.val OpV.val
  obtain ⟨mm, hmm⟩ : ∃ mm, min size stext.length = mm := ⟨_, rfl⟩
  have hmi : min (size : Int) (stext.length : Int) = (mm : Int) := by omega
  have hml : mm ≤ stext.length := by omega
  have htk : stext.take size = stext.take mm := by
    by_cases h : size ≤ stext.length
    · rw [show mm = size by omega]
    · rw [List.take_of_length_le (by omega), List.take_of_length_le (by omega)]
  rw [hmm, htk] at HM
  clear htk hmm
  have HW := Lib.hid fun W => State_read1 ⟨stext, recent, last, begun⟩ mm W (by simp only; omega) (by simp only; omega)
  generalize hwr : Sta.rd ⟨stext, recent, last, begun⟩ mm 1 = sw at *
  unfold Sta.val at HW
  clear hwr
  go_enter Tryd.func69, Tryd.ntmps69
  go_wp2_with fail
  go_region_with ((go_at_call 85; ((with_reducible refine (HW.out _).mono ?_); rintro e w2 ⟨rfl, hf2⟩; have hf02 := ((Fr.refl [] _).drew).trans hf2; have hf12 := fr_four hf02 (by simp); obtain ⟨c00, c01, c02, c03, c10, c11, c12, c13, c14, c20, f20, c21, f21, c22, f22, c23, f23, c30, f30, c31, f31, c32, f32, c33, f33⟩ := four_facts hf02)))
  all_goals
    go_wp2_with fail
    refine bodyPost_ret (v := .tuple #[.agg #[.string ⟨sw.text.toArray⟩, .int .i64 (sw.recent : Int), .string ⟨sw.last.toArray⟩, .bool sw.begun], .agg #[.string ⟨(stext.take mm).toArray⟩, .int .i64 0, .int .i32 0, .string ⟨#[]⟩], .bool true]) (by simp [results, Tryd.results69, go_sem, c20, c21, c22, c23, c30, c31, c32, c33]) rfl ?_
    have hfs : ∀ w3, Fr [w.heap.size + 1 + 1, w.heap.size + 1 + 1 + 1] w2 w3 → SPost _ _ w (.returned (.tuple #[.agg #[.string ⟨sw.text.toArray⟩, .int .i64 (sw.recent : Int), .string ⟨sw.last.toArray⟩, .bool sw.begun], .agg #[.string ⟨(stext.take mm).toArray⟩, .int .i64 0, .int .i32 0, .string ⟨#[]⟩], .bool true])) w3 := fun w3 hf3 => ⟨_, _, true, rfl, HM, hf12.trans_of hf3 (by intro i hi; simp only [List.mem_cons, List.not_mem_nil, or_false] at hi; exact .inr (by omega))⟩
    exact hfs _ (by repeat' first | with_reducible exact Fr.refl _ _ | with_reducible refine Fr.drew ?_ | refine Fr.setCell ?_ (.inl (by simp)) _)

set_option maxHeartbeats 4000000 in
set_option maxRecDepth 100000 in
theorem sr_read_end (hk : o.kind = k_read) (hb : s.text = [] ∧ 0 < o.size) : Calls Tryd.prog 69 #[s.val, o.val] w (SPost s o w) := by
  obtain ⟨kind, text, size, n, char⟩ := o
  obtain ⟨stext, recent, last, begun⟩ := s
  obtain ⟨hr6, hl4, hwh⟩ := hs
  obtain ⟨hsz, hn0, hn1, hc0, hc1⟩ := ho
  simp only at hk hr6 hl4 hwh hsz hn0 hn1 hc0 hc1 hl
  subst hk
  simp only at hb
  have HM := Lib.hid ((callS_of _ _ (by show k_read ≠ k_writerune; decide)).trans (callM_read ⟨stext, recent, last, begun⟩ ⟨k_read, text, size, n, char⟩ rfl))
  try simp only at HM
  have HWH := Lib.hid hwh
  clear hwh
  unfold Sta.val OpV.val
  obtain ⟨mm, hmm⟩ : ∃ mm, min size stext.length = mm := ⟨_, rfl⟩
  have hmi : min (size : Int) (stext.length : Int) = (mm : Int) := by omega
  have hml : mm ≤ stext.length := by omega
  have htk : stext.take size = stext.take mm := by
    by_cases h : size ≤ stext.length
    · rw [show mm = size by omega]
    · rw [List.take_of_length_le (by omega), List.take_of_length_le (by omega)]
  rw [hmm, htk, hmi] at HM
  rw [if_pos hb] at HM
  have hb1 : (stext == []) = true := by rw [hb.1]; rfl
  have hb2 : decide ((0 : Int) < (size : Int)) = true := decide_eq_true (by omega)
  have hb3 : decide (0 < size) = true := decide_eq_true hb.2
  clear hb
  clear htk hmm
  have HW := Lib.hid fun W => State_read1 ⟨stext, recent, last, begun⟩ mm W (by simp only; omega) (by simp only; omega)
  generalize hwr : Sta.rd ⟨stext, recent, last, begun⟩ mm 1 = sw at *
  unfold Sta.val at HW
  clear hwr
  have hk5 := (Blk.new ((((w.alloc (.cells #[.string ⟨stext.toArray⟩, .int .i64 (recent : Int), .string ⟨last.toArray⟩, .bool begun] 85)).alloc (.cells #[.string ⟨k_read.toArray⟩, .string ⟨text.toArray⟩, .int .u16 (size : Int), .int .i64 n, .int .i32 char] 29)).alloc (.cells #[.string ⟨#[]⟩, .int .i64 0, .string ⟨#[]⟩, .bool false] 85)).alloc (.cells #[.string ⟨#[]⟩, .int .i64 0, .int .i32 0, .string ⟨#[]⟩] 77)) 77 #[.string ⟨(stext.take mm).toArray⟩, .int .i64 (mm : Int), .int .i32 0, .string ⟨#[101, 110, 100]⟩])
  simp only [World.size_alloc] at hk5
  have HK5 := Lib.hid (Blk.drew hk5)
  have HF5 := Lib.hid (((Fr.refl [] ((((w.alloc (.cells #[.string ⟨stext.toArray⟩, .int .i64 (recent : Int), .string ⟨last.toArray⟩, .bool begun] 85)).alloc (.cells #[.string ⟨k_read.toArray⟩, .string ⟨text.toArray⟩, .int .u16 (size : Int), .int .i64 n, .int .i32 char] 29)).alloc (.cells #[.string ⟨#[]⟩, .int .i64 0, .string ⟨#[]⟩, .bool false] 85)).alloc (.cells #[.string ⟨#[]⟩, .int .i64 0, .int .i32 0, .string ⟨#[]⟩] 77))).alloc (.cells #[.string ⟨(stext.take mm).toArray⟩, .int .i64 (mm : Int), .int .i32 0, .string ⟨#[101, 110, 100]⟩] 77)).drew)
  clear hk5
  go_enter Tryd.func69, Tryd.ntmps69
  go_wp2_with fail
  go_region_with ((go_at_call 85; ((with_reducible refine (HW.out _).mono ?_); rintro e w2 ⟨rfl, hf2⟩; have hk5 := HK5.out.fr hf2 (by simp); have hf02 := HF5.out.trans hf2; have hf12 := fr_four hf02 (by simp); obtain ⟨c00, c01, c02, c03, c10, c11, c12, c13, c14, c20, f20, c21, f21, c22, f22, c23, f23, c30, f30, c31, f31, c32, f32, c33, f33⟩ := four_facts hf02; have g0 : w2.cell? ⟨w.heap.size + 1 + 1 + 1 + 1, 0, none⟩ = some (.string ⟨(stext.take mm).toArray⟩) := hk5.cell 0; have g1 : w2.cell? ⟨w.heap.size + 1 + 1 + 1 + 1, 1, none⟩ = some (.int .i64 (mm : Int)) := hk5.cell 1; have g2 : w2.cell? ⟨w.heap.size + 1 + 1 + 1 + 1, 2, none⟩ = some (.int .i32 0) := hk5.cell 2; have g3 : w2.cell? ⟨w.heap.size + 1 + 1 + 1 + 1, 3, none⟩ = some (.string ⟨#[101, 110, 100]⟩) := hk5.cell 3; clear hk5)))
  all_goals
    go_wp2_with fail
    refine bodyPost_ret (v := .tuple #[.agg #[.string ⟨sw.text.toArray⟩, .int .i64 (sw.recent : Int), .string ⟨sw.last.toArray⟩, .bool sw.begun], .agg #[.string ⟨(stext.take mm).toArray⟩, .int .i64 (mm : Int), .int .i32 0, .string ⟨#[101, 110, 100]⟩], .bool true]) (by simp [results, Tryd.results69, go_sem, c20, c21, c22, c23, c30, c31, c32, c33]) rfl ?_
    have hfs : ∀ w3, Fr [w.heap.size + 1 + 1, w.heap.size + 1 + 1 + 1] w2 w3 → SPost _ _ w (.returned (.tuple #[.agg #[.string ⟨sw.text.toArray⟩, .int .i64 (sw.recent : Int), .string ⟨sw.last.toArray⟩, .bool sw.begun], .agg #[.string ⟨(stext.take mm).toArray⟩, .int .i64 (mm : Int), .int .i32 0, .string ⟨#[101, 110, 100]⟩], .bool true])) w3 := fun w3 hf3 => ⟨_, _, true, rfl, HM, hf12.trans_of hf3 (by intro i hi; simp only [List.mem_cons, List.not_mem_nil, or_false] at hi; exact .inr (by omega))⟩
    exact hfs _ (by repeat' first | with_reducible exact Fr.refl _ _ | with_reducible refine Fr.drew ?_ | refine Fr.setCell ?_ (.inl (by simp)) _)

set_option maxHeartbeats 4000000 in
set_option maxRecDepth 100000 in
theorem sr_read_some (hk : o.kind = k_read) (hb : s.text ≠ []) : Calls Tryd.prog 69 #[s.val, o.val] w (SPost s o w) := by
  obtain ⟨kind, text, size, n, char⟩ := o
  obtain ⟨stext, recent, last, begun⟩ := s
  obtain ⟨hr6, hl4, hwh⟩ := hs
  obtain ⟨hsz, hn0, hn1, hc0, hc1⟩ := ho
  simp only at hk hr6 hl4 hwh hsz hn0 hn1 hc0 hc1 hl
  subst hk
  simp only at hb
  have HM := Lib.hid ((callS_of _ _ (by show k_read ≠ k_writerune; decide)).trans (callM_read ⟨stext, recent, last, begun⟩ ⟨k_read, text, size, n, char⟩ rfl))
  try simp only at HM
  have HWH := Lib.hid hwh
  clear hwh
  unfold Sta.val OpV.val
  obtain ⟨mm, hmm⟩ : ∃ mm, min size stext.length = mm := ⟨_, rfl⟩
  have hmi : min (size : Int) (stext.length : Int) = (mm : Int) := by omega
  have hml : mm ≤ stext.length := by omega
  have htk : stext.take size = stext.take mm := by
    by_cases h : size ≤ stext.length
    · rw [show mm = size by omega]
    · rw [List.take_of_length_le (by omega), List.take_of_length_le (by omega)]
  rw [hmm, htk, hmi] at HM
  rw [if_neg (fun e => hb e.1)] at HM
  have hb1 : (stext == []) = false := by simpa using hb
  clear hb
  clear htk hmm
  have HW := Lib.hid fun W => State_read1 ⟨stext, recent, last, begun⟩ mm W (by simp only; omega) (by simp only; omega)
  generalize hwr : Sta.rd ⟨stext, recent, last, begun⟩ mm 1 = sw at *
  unfold Sta.val at HW
  clear hwr
  have hk5 := (Blk.new ((((w.alloc (.cells #[.string ⟨stext.toArray⟩, .int .i64 (recent : Int), .string ⟨last.toArray⟩, .bool begun] 85)).alloc (.cells #[.string ⟨k_read.toArray⟩, .string ⟨text.toArray⟩, .int .u16 (size : Int), .int .i64 n, .int .i32 char] 29)).alloc (.cells #[.string ⟨#[]⟩, .int .i64 0, .string ⟨#[]⟩, .bool false] 85)).alloc (.cells #[.string ⟨#[]⟩, .int .i64 0, .int .i32 0, .string ⟨#[]⟩] 77)) 77 #[.string ⟨(stext.take mm).toArray⟩, .int .i64 (mm : Int), .int .i32 0, .string ⟨#[]⟩])
  simp only [World.size_alloc] at hk5
  have HK5 := Lib.hid (Blk.drew hk5)
  have HF5 := Lib.hid (((Fr.refl [] ((((w.alloc (.cells #[.string ⟨stext.toArray⟩, .int .i64 (recent : Int), .string ⟨last.toArray⟩, .bool begun] 85)).alloc (.cells #[.string ⟨k_read.toArray⟩, .string ⟨text.toArray⟩, .int .u16 (size : Int), .int .i64 n, .int .i32 char] 29)).alloc (.cells #[.string ⟨#[]⟩, .int .i64 0, .string ⟨#[]⟩, .bool false] 85)).alloc (.cells #[.string ⟨#[]⟩, .int .i64 0, .int .i32 0, .string ⟨#[]⟩] 77))).alloc (.cells #[.string ⟨(stext.take mm).toArray⟩, .int .i64 (mm : Int), .int .i32 0, .string ⟨#[]⟩] 77)).drew)
  clear hk5
  go_enter Tryd.func69, Tryd.ntmps69
  go_wp2_with fail
  go_region_with ((go_at_call 85; ((with_reducible refine (HW.out _).mono ?_); rintro e w2 ⟨rfl, hf2⟩; have hk5 := HK5.out.fr hf2 (by simp); have hf02 := HF5.out.trans hf2; have hf12 := fr_four hf02 (by simp); obtain ⟨c00, c01, c02, c03, c10, c11, c12, c13, c14, c20, f20, c21, f21, c22, f22, c23, f23, c30, f30, c31, f31, c32, f32, c33, f33⟩ := four_facts hf02; have g0 : w2.cell? ⟨w.heap.size + 1 + 1 + 1 + 1, 0, none⟩ = some (.string ⟨(stext.take mm).toArray⟩) := hk5.cell 0; have g1 : w2.cell? ⟨w.heap.size + 1 + 1 + 1 + 1, 1, none⟩ = some (.int .i64 (mm : Int)) := hk5.cell 1; have g2 : w2.cell? ⟨w.heap.size + 1 + 1 + 1 + 1, 2, none⟩ = some (.int .i32 0) := hk5.cell 2; have g3 : w2.cell? ⟨w.heap.size + 1 + 1 + 1 + 1, 3, none⟩ = some (.string ⟨#[]⟩) := hk5.cell 3; clear hk5)))
  all_goals
    go_wp2_with fail
    refine bodyPost_ret (v := .tuple #[.agg #[.string ⟨sw.text.toArray⟩, .int .i64 (sw.recent : Int), .string ⟨sw.last.toArray⟩, .bool sw.begun], .agg #[.string ⟨(stext.take mm).toArray⟩, .int .i64 (mm : Int), .int .i32 0, .string ⟨#[]⟩], .bool true]) (by simp [results, Tryd.results69, go_sem, c20, c21, c22, c23, c30, c31, c32, c33]) rfl ?_
    have hfs : ∀ w3, Fr [w.heap.size + 1 + 1, w.heap.size + 1 + 1 + 1] w2 w3 → SPost _ _ w (.returned (.tuple #[.agg #[.string ⟨sw.text.toArray⟩, .int .i64 (sw.recent : Int), .string ⟨sw.last.toArray⟩, .bool sw.begun], .agg #[.string ⟨(stext.take mm).toArray⟩, .int .i64 (mm : Int), .int .i32 0, .string ⟨#[]⟩], .bool true])) w3 := fun w3 hf3 => ⟨_, _, true, rfl, HM, hf12.trans_of hf3 (by intro i hi; simp only [List.mem_cons, List.not_mem_nil, or_false] at hi; exact .inr (by omega))⟩
    exact hfs _ (by repeat' first | with_reducible exact Fr.refl _ _ | with_reducible refine Fr.drew ?_ | refine Fr.setCell ?_ (.inl (by simp)) _)

set_option maxHeartbeats 4000000 in
set_option maxRecDepth 100000 in
theorem sr_read_zero (hk : o.kind = k_read) (hb : s.text = []) (hb2 : ¬ 0 < o.size) : Calls Tryd.prog 69 #[s.val, o.val] w (SPost s o w) := by
  obtain ⟨kind, text, size, n, char⟩ := o
  obtain ⟨stext, recent, last, begun⟩ := s
  obtain ⟨hr6, hl4, hwh⟩ := hs
  obtain ⟨hsz, hn0, hn1, hc0, hc1⟩ := ho
  simp only at hk hr6 hl4 hwh hsz hn0 hn1 hc0 hc1 hl
  subst hk
  simp only at hb hb2
  have HM := Lib.hid ((callS_of _ _ (by show k_read ≠ k_writerune; decide)).trans (callM_read ⟨stext, recent, last, begun⟩ ⟨k_read, text, size, n, char⟩ rfl))
  try simp only at HM
  have HWH := Lib.hid hwh
  clear hwh
  unfold Sta.val OpV.val
  obtain ⟨mm, hmm⟩ : ∃ mm, min size stext.length = mm := ⟨_, rfl⟩
  have hmi : min (size : Int) (stext.length : Int) = (mm : Int) := by omega
  have hml : mm ≤ stext.length := by omega
  have htk : stext.take size = stext.take mm := by
    by_cases h : size ≤ stext.length
    · rw [show mm = size by omega]
    · rw [List.take_of_length_le (by omega), List.take_of_length_le (by omega)]
  rw [hmm, htk, hmi] at HM
  rw [if_neg (fun e => hb2 e.2)] at HM
  have hb1 : (stext == []) = true := by rw [hb]; rfl
  have hb3 : decide ((0 : Int) < (size : Int)) = false := decide_eq_false (by omega)
  have hb4 : decide (0 < size) = false := decide_eq_false hb2
  clear hb hb2
  clear htk hmm
  have HW := Lib.hid fun W => State_read1 ⟨stext, recent, last, begun⟩ mm W (by simp only; omega) (by simp only; omega)
  generalize hwr : Sta.rd ⟨stext, recent, last, begun⟩ mm 1 = sw at *
  unfold Sta.val at HW
  clear hwr
  have hk5 := (Blk.new ((((w.alloc (.cells #[.string ⟨stext.toArray⟩, .int .i64 (recent : Int), .string ⟨last.toArray⟩, .bool begun] 85)).alloc (.cells #[.string ⟨k_read.toArray⟩, .string ⟨text.toArray⟩, .int .u16 (size : Int), .int .i64 n, .int .i32 char] 29)).alloc (.cells #[.string ⟨#[]⟩, .int .i64 0, .string ⟨#[]⟩, .bool false] 85)).alloc (.cells #[.string ⟨#[]⟩, .int .i64 0, .int .i32 0, .string ⟨#[]⟩] 77)) 77 #[.string ⟨(stext.take mm).toArray⟩, .int .i64 (mm : Int), .int .i32 0, .string ⟨#[]⟩])
  simp only [World.size_alloc] at hk5
  have HK5 := Lib.hid (Blk.drew hk5)
  have HF5 := Lib.hid (((Fr.refl [] ((((w.alloc (.cells #[.string ⟨stext.toArray⟩, .int .i64 (recent : Int), .string ⟨last.toArray⟩, .bool begun] 85)).alloc (.cells #[.string ⟨k_read.toArray⟩, .string ⟨text.toArray⟩, .int .u16 (size : Int), .int .i64 n, .int .i32 char] 29)).alloc (.cells #[.string ⟨#[]⟩, .int .i64 0, .string ⟨#[]⟩, .bool false] 85)).alloc (.cells #[.string ⟨#[]⟩, .int .i64 0, .int .i32 0, .string ⟨#[]⟩] 77))).alloc (.cells #[.string ⟨(stext.take mm).toArray⟩, .int .i64 (mm : Int), .int .i32 0, .string ⟨#[]⟩] 77)).drew)
  clear hk5
  go_enter Tryd.func69, Tryd.ntmps69
  go_wp2_with fail
  go_region_with ((go_at_call 85; ((with_reducible refine (HW.out _).mono ?_); rintro e w2 ⟨rfl, hf2⟩; have hk5 := HK5.out.fr hf2 (by simp); have hf02 := HF5.out.trans hf2; have hf12 := fr_four hf02 (by simp); obtain ⟨c00, c01, c02, c03, c10, c11, c12, c13, c14, c20, f20, c21, f21, c22, f22, c23, f23, c30, f30, c31, f31, c32, f32, c33, f33⟩ := four_facts hf02; have g0 : w2.cell? ⟨w.heap.size + 1 + 1 + 1 + 1, 0, none⟩ = some (.string ⟨(stext.take mm).toArray⟩) := hk5.cell 0; have g1 : w2.cell? ⟨w.heap.size + 1 + 1 + 1 + 1, 1, none⟩ = some (.int .i64 (mm : Int)) := hk5.cell 1; have g2 : w2.cell? ⟨w.heap.size + 1 + 1 + 1 + 1, 2, none⟩ = some (.int .i32 0) := hk5.cell 2; have g3 : w2.cell? ⟨w.heap.size + 1 + 1 + 1 + 1, 3, none⟩ = some (.string ⟨#[]⟩) := hk5.cell 3; clear hk5)))
  all_goals
    go_wp2_with fail
    refine bodyPost_ret (v := .tuple #[.agg #[.string ⟨sw.text.toArray⟩, .int .i64 (sw.recent : Int), .string ⟨sw.last.toArray⟩, .bool sw.begun], .agg #[.string ⟨(stext.take mm).toArray⟩, .int .i64 (mm : Int), .int .i32 0, .string ⟨#[]⟩], .bool true]) (by simp [results, Tryd.results69, go_sem, c20, c21, c22, c23, c30, c31, c32, c33]) rfl ?_
    have hfs : ∀ w3, Fr [w.heap.size + 1 + 1, w.heap.size + 1 + 1 + 1] w2 w3 → SPost _ _ w (.returned (.tuple #[.agg #[.string ⟨sw.text.toArray⟩, .int .i64 (sw.recent : Int), .string ⟨sw.last.toArray⟩, .bool sw.begun], .agg #[.string ⟨(stext.take mm).toArray⟩, .int .i64 (mm : Int), .int .i32 0, .string ⟨#[]⟩], .bool true])) w3 := fun w3 hf3 => ⟨_, _, true, rfl, HM, hf12.trans_of hf3 (by intro i hi; simp only [List.mem_cons, List.not_mem_nil, or_false] at hi; exact .inr (by omega))⟩
    exact hfs _ (by repeat' first | with_reducible exact Fr.refl _ _ | with_reducible refine Fr.drew ?_ | refine Fr.setCell ?_ (.inl (by simp)) _)

set_option maxHeartbeats 4000000 in
set_option maxRecDepth 100000 in
theorem sr_peek_end (hk : o.kind = k_peek) (hb : s.text.length < o.size) : Calls Tryd.prog 69 #[s.val, o.val] w (SPost s o w) := by
  obtain ⟨kind, text, size, n, char⟩ := o
  obtain ⟨stext, recent, last, begun⟩ := s
  obtain ⟨hr6, hl4, hwh⟩ := hs
  obtain ⟨hsz, hn0, hn1, hc0, hc1⟩ := ho
  simp only at hk hr6 hl4 hwh hsz hn0 hn1 hc0 hc1 hl
  subst hk
  simp only at hb
  have HM := Lib.hid ((callS_of _ _ (by show k_peek ≠ k_writerune; decide)).trans (callM_peek ⟨stext, recent, last, begun⟩ ⟨k_peek, text, size, n, char⟩ rfl))
  try simp only at HM
  have HWH := Lib.hid hwh
  clear hwh
  unfold Sta.val OpV.val
  obtain ⟨mm, hmm⟩ : ∃ mm, min size stext.length = mm := ⟨_, rfl⟩
  have hmi : min (size : Int) (stext.length : Int) = (mm : Int) := by omega
  have hml : mm ≤ stext.length := by omega
  have htk : stext.take size = stext.take mm := by
    by_cases h : size ≤ stext.length
    · rw [show mm = size by omega]
    · rw [List.take_of_length_le (by omega), List.take_of_length_le (by omega)]
  rw [if_pos hb, htk] at HM
  have hb1 : decide ((mm : Int) < (size : Int)) = true := decide_eq_true (by omega)
  have hb2 : decide (mm < size) = true := decide_eq_true (by omega)
  clear htk hmm hb
  go_enter Tryd.func69, Tryd.ntmps69
  go_wp2_with fail
  go_region
  all_goals
    go_wp2_with fail
    refine bodyPost_ret (v := .tuple #[.agg #[.string ⟨stext.toArray⟩, .int .i64 6, .string ⟨#[]⟩, .bool begun], .agg #[.string ⟨(stext.take mm).toArray⟩, .int .i64 0, .int .i32 0, .string ⟨#[101, 110, 100]⟩], .bool true]) (by simp [results, Tryd.results69, go_sem]) rfl ?_
    exact ⟨_, _, true, rfl, HM, (by repeat' first | with_reducible exact Fr.refl _ _ | with_reducible refine Fr.alloc ?_ _ | with_reducible refine Fr.drew ?_ | refine Fr.setCell ?_ (.inr (by simp)) _)⟩

set_option maxHeartbeats 4000000 in
set_option maxRecDepth 100000 in
theorem sr_peek_ok (hk : o.kind = k_peek) (hb : ¬ s.text.length < o.size) : Calls Tryd.prog 69 #[s.val, o.val] w (SPost s o w) := by
  obtain ⟨kind, text, size, n, char⟩ := o
  obtain ⟨stext, recent, last, begun⟩ := s
  obtain ⟨hr6, hl4, hwh⟩ := hs
  obtain ⟨hsz, hn0, hn1, hc0, hc1⟩ := ho
  simp only at hk hr6 hl4 hwh hsz hn0 hn1 hc0 hc1 hl
  subst hk
  simp only at hb
  have HM := Lib.hid ((callS_of _ _ (by show k_peek ≠ k_writerune; decide)).trans (callM_peek ⟨stext, recent, last, begun⟩ ⟨k_peek, text, size, n, char⟩ rfl))
  try simp only at HM
  have HWH := Lib.hid hwh
  clear hwh
  unfold Sta.val OpV.val
  obtain ⟨mm, hmm⟩ : ∃ mm, min size stext.length = mm := ⟨_, rfl⟩
  have hmi : min (size : Int) (stext.length : Int) = (mm : Int) := by omega
  have hml : mm ≤ stext.length := by omega
  have htk : stext.take size = stext.take mm := by
    by_cases h : size ≤ stext.length
    · rw [show mm = size by omega]
    · rw [List.take_of_length_le (by omega), List.take_of_length_le (by omega)]
  rw [if_neg hb, htk] at HM
  have hb1 : decide ((mm : Int) < (size : Int)) = false := decide_eq_false (by omega)
  have hb2 : decide (mm < size) = false := decide_eq_false (by omega)
  clear htk hmm hb
  go_enter Tryd.func69, Tryd.ntmps69
  go_wp2_with fail
  go_region
  all_goals
    go_wp2_with fail
    refine bodyPost_ret (v := .tuple #[.agg #[.string ⟨stext.toArray⟩, .int .i64 6, .string ⟨#[]⟩, .bool begun], .agg #[.string ⟨(stext.take mm).toArray⟩, .int .i64 0, .int .i32 0, .string ⟨#[]⟩], .bool true]) (by simp [results, Tryd.results69, go_sem]) rfl ?_
    exact ⟨_, _, true, rfl, HM, (by repeat' first | with_reducible exact Fr.refl _ _ | with_reducible refine Fr.alloc ?_ _ | with_reducible refine Fr.drew ?_ | refine Fr.setCell ?_ (.inr (by simp)) _)⟩

set_option maxHeartbeats 4000000 in
set_option maxRecDepth 100000 in
theorem sr_readbyte_eof (hk : o.kind = k_readbyte) (hb : s.text = []) : Calls Tryd.prog 69 #[s.val, o.val] w (SPost s o w) := by
  obtain ⟨kind, text, size, n, char⟩ := o
  obtain ⟨stext, recent, last, begun⟩ := s
  obtain ⟨hr6, hl4, hwh⟩ := hs
  obtain ⟨hsz, hn0, hn1, hc0, hc1⟩ := ho
  simp only at hk hr6 hl4 hwh hsz hn0 hn1 hc0 hc1 hl
  subst hk
  simp only at hb
  subst hb
  have HM := Lib.hid ((callS_of _ _ (by show k_readbyte ≠ k_writerune; decide)).trans ((callM_readbyte ⟨[], recent, last, begun⟩ ⟨k_readbyte, text, size, n, char⟩ rfl).trans (if_pos rfl)))
  try simp only at HM
  have HWH := Lib.hid hwh
  clear hwh
  unfold Sta.val OpV.val
  obtain ⟨mm, hmm⟩ : ∃ mm, min size ([] : List UInt8).length = mm := ⟨_, rfl⟩
  have hmi : min (size : Int) (([] : List UInt8).length : Int) = (mm : Int) := by omega
  have hml : mm ≤ ([] : List UInt8).length := by omega
  have HW : Hid (∀ W, Calls Tryd.prog 85 #[Sta.val ⟨[], recent, last, begun⟩, .int .i64 0, .int .i64 1] W fun e w' => e = .returned (Sta.rd ⟨[], recent, last, begun⟩ 0 1).val ∧ Fr [] W w') := fun W => State_read_zero ⟨[], recent, last, begun⟩ 1 W
  generalize hwr : Sta.rd ⟨[], recent, last, begun⟩ 0 1 = sw at *
  unfold Sta.val at HW
  clear hwr hmm
  go_enter Tryd.func69, Tryd.ntmps69
  go_wp2_with fail
  refine (HW.out _).mono ?_
  rintro e w2 ⟨rfl, hf02⟩
  have hf12 := fr_four hf02 (by simp)
  obtain ⟨c00, c01, c02, c03, c10, c11, c12, c13, c14, c20, f20, c21, f21, c22, f22, c23, f23, c30, f30, c31, f31, c32, f32, c33, f33⟩ := four_facts hf02
  go_wp2_with fail
  refine bodyPost_ret (v := .tuple #[.agg #[.string ⟨sw.text.toArray⟩, .int .i64 (sw.recent : Int), .string ⟨sw.last.toArray⟩, .bool sw.begun], .agg #[.string ⟨#[]⟩, .int .i64 0, .int .i32 0, .string ⟨#[101, 110, 100]⟩], .bool true]) (by simp [results, Tryd.results69, go_sem, c20, c21, c22, c23, c30, c31, c32, c33]) rfl ?_
  have hfs : ∀ w3, Fr [w.heap.size + 1 + 1, w.heap.size + 1 + 1 + 1] w2 w3 → SPost _ _ w (.returned (.tuple #[.agg #[.string ⟨sw.text.toArray⟩, .int .i64 (sw.recent : Int), .string ⟨sw.last.toArray⟩, .bool sw.begun], .agg #[.string ⟨#[]⟩, .int .i64 0, .int .i32 0, .string ⟨#[101, 110, 100]⟩], .bool true])) w3 := fun w3 hf3 => ⟨_, _, true, rfl, HM, hf12.trans_of hf3 (by intro i hi; simp only [List.mem_cons, List.not_mem_nil, or_false] at hi; exact .inr (by omega))⟩
  exact hfs _ (by repeat' first | with_reducible exact Fr.refl _ _ | with_reducible refine Fr.drew ?_ | refine Fr.setCell ?_ (.inl (by simp)) _)

set_option maxHeartbeats 4000000 in
set_option maxRecDepth 100000 in
theorem sr_readbyte_some (hk : o.kind = k_readbyte) (hb : s.text ≠ []) : Calls Tryd.prog 69 #[s.val, o.val] w (SPost s o w) := by
  obtain ⟨kind, text, size, n, char⟩ := o
  obtain ⟨stext, recent, last, begun⟩ := s
  obtain ⟨hr6, hl4, hwh⟩ := hs
  obtain ⟨hsz, hn0, hn1, hc0, hc1⟩ := ho
  simp only at hk hr6 hl4 hwh hsz hn0 hn1 hc0 hc1 hl
  subst hk
  simp only at hb
  obtain ⟨x, t, rfl⟩ : ∃ x t, stext = x :: t := by cases stext with | nil => exact absurd rfl hb | cons x t => exact ⟨x, t, rfl⟩
  have HM := Lib.hid ((callS_of _ _ (by show k_readbyte ≠ k_writerune; decide)).trans ((callM_readbyte ⟨x :: t, recent, last, begun⟩ ⟨k_readbyte, text, size, n, char⟩ rfl).trans (if_neg (by simp))))
  try simp only at HM
  have HWH := Lib.hid hwh
  clear hwh
  unfold Sta.val OpV.val
  obtain ⟨mm, hmm⟩ : ∃ mm, min size (x :: t).length = mm := ⟨_, rfl⟩
  have hmi : min (size : Int) ((x :: t).length : Int) = (mm : Int) := by omega
  have hml : mm ≤ (x :: t).length := by omega
  have HW : Hid (∀ W, Calls Tryd.prog 85 #[Sta.val ⟨x :: t, recent, last, begun⟩, .int .i64 1, .int .i64 1] W fun e w' => e = .returned (Sta.rd ⟨x :: t, recent, last, begun⟩ 1 1).val ∧ Fr [] W w') := fun W => State_read1 ⟨x :: t, recent, last, begun⟩ 1 W (by simp) (by simp only; omega)
  generalize hwr : Sta.rd ⟨x :: t, recent, last, begun⟩ 1 1 = sw at *
  unfold Sta.val at HW
  rw [show byteAt (x :: t) 0 = x.toNat from rfl] at HM
  have hsz0 : 0 < (⟨(x :: t).toArray⟩ : ByteArray).size := by rw [str_size]; simp
  have hx0 : (⟨(x :: t).toArray⟩ : ByteArray)[0] = x := rfl
  have hx256 : x.toNat < 256 := x.toNat_lt
  have hwx : IntKind.i64.wrap (x.toNat : Int) = (x.toNat : Int) := IntWalk.i64_in _ (by omega)
  have hbn : ((x :: t) == []) = false := rfl
  clear hwr hmm
  go_enter Tryd.func69, Tryd.ntmps69
  go_wp2_with fail
  go_region_with ((go_at_call 85; ((with_reducible refine (HW.out _).mono ?_); rintro e w2 ⟨rfl, hf2⟩; have hf02 := ((Fr.refl [] _).drew).trans hf2; have hf12 := fr_four hf02 (by simp); obtain ⟨c00, c01, c02, c03, c10, c11, c12, c13, c14, c20, f20, c21, f21, c22, f22, c23, f23, c30, f30, c31, f31, c32, f32, c33, f33⟩ := four_facts hf02)))
  all_goals
    go_wp2_with fail
    refine bodyPost_ret (v := .tuple #[.agg #[.string ⟨sw.text.toArray⟩, .int .i64 (sw.recent : Int), .string ⟨sw.last.toArray⟩, .bool sw.begun], .agg #[.string ⟨#[]⟩, .int .i64 (x.toNat : Int), .int .i32 0, .string ⟨#[]⟩], .bool true]) (by simp [results, Tryd.results69, go_sem, c20, c21, c22, c23, c30, c31, c32, c33]) rfl ?_
    have hfs : ∀ w3, Fr [w.heap.size + 1 + 1, w.heap.size + 1 + 1 + 1] w2 w3 → SPost _ _ w (.returned (.tuple #[.agg #[.string ⟨sw.text.toArray⟩, .int .i64 (sw.recent : Int), .string ⟨sw.last.toArray⟩, .bool sw.begun], .agg #[.string ⟨#[]⟩, .int .i64 (x.toNat : Int), .int .i32 0, .string ⟨#[]⟩], .bool true])) w3 := fun w3 hf3 => ⟨_, _, true, rfl, HM, hf12.trans_of hf3 (by intro i hi; simp only [List.mem_cons, List.not_mem_nil, or_false] at hi; exact .inr (by omega))⟩
    exact hfs _ (by repeat' first | with_reducible exact Fr.refl _ _ | with_reducible refine Fr.drew ?_ | refine Fr.setCell ?_ (.inl (by simp)) _)

set_option maxHeartbeats 4000000 in
set_option maxRecDepth 100000 in
theorem sr_readrune_eof (hk : o.kind = k_readrune) (hb : s.text = []) : Calls Tryd.prog 69 #[s.val, o.val] w (SPost s o w) := by
  obtain ⟨kind, text, size, n, char⟩ := o
  obtain ⟨stext, recent, last, begun⟩ := s
  obtain ⟨hr6, hl4, hwh⟩ := hs
  obtain ⟨hsz, hn0, hn1, hc0, hc1⟩ := ho
  simp only at hk hr6 hl4 hwh hsz hn0 hn1 hc0 hc1 hl
  subst hk
  simp only at hb
  subst hb
  have HM := Lib.hid ((callS_of _ _ (by show k_readrune ≠ k_writerune; decide)).trans ((callM_readrune ⟨[], recent, last, begun⟩ ⟨k_readrune, text, size, n, char⟩ rfl).trans (if_pos rfl)))
  try simp only at HM
  have HWH := Lib.hid hwh
  clear hwh
  unfold Sta.val OpV.val
  obtain ⟨mm, hmm⟩ : ∃ mm, min size ([] : List UInt8).length = mm := ⟨_, rfl⟩
  have hmi : min (size : Int) (([] : List UInt8).length : Int) = (mm : Int) := by omega
  have hml : mm ≤ ([] : List UInt8).length := by omega
  have HW : Hid (∀ W, Calls Tryd.prog 85 #[Sta.val ⟨[], recent, last, begun⟩, .int .i64 0, .int .i64 2] W fun e w' => e = .returned (Sta.rd ⟨[], recent, last, begun⟩ 0 2).val ∧ Fr [] W w') := fun W => State_read_zero ⟨[], recent, last, begun⟩ 2 W
  generalize hwr : Sta.rd ⟨[], recent, last, begun⟩ 0 2 = sw at *
  unfold Sta.val at HW
  clear hwr hmm
  go_enter Tryd.func69, Tryd.ntmps69
  go_wp2_with fail
  refine (HW.out _).mono ?_
  rintro e w2 ⟨rfl, hf02⟩
  have hf12 := fr_four hf02 (by simp)
  obtain ⟨c00, c01, c02, c03, c10, c11, c12, c13, c14, c20, f20, c21, f21, c22, f22, c23, f23, c30, f30, c31, f31, c32, f32, c33, f33⟩ := four_facts hf02
  go_wp2_with fail
  refine bodyPost_ret (v := .tuple #[.agg #[.string ⟨sw.text.toArray⟩, .int .i64 (sw.recent : Int), .string ⟨sw.last.toArray⟩, .bool sw.begun], .agg #[.string ⟨#[]⟩, .int .i64 0, .int .i32 0, .string ⟨#[101, 110, 100]⟩], .bool true]) (by simp [results, Tryd.results69, go_sem, c20, c21, c22, c23, c30, c31, c32, c33]) rfl ?_
  have hfs : ∀ w3, Fr [w.heap.size + 1 + 1, w.heap.size + 1 + 1 + 1] w2 w3 → SPost _ _ w (.returned (.tuple #[.agg #[.string ⟨sw.text.toArray⟩, .int .i64 (sw.recent : Int), .string ⟨sw.last.toArray⟩, .bool sw.begun], .agg #[.string ⟨#[]⟩, .int .i64 0, .int .i32 0, .string ⟨#[101, 110, 100]⟩], .bool true])) w3 := fun w3 hf3 => ⟨_, _, true, rfl, HM, hf12.trans_of hf3 (by intro i hi; simp only [List.mem_cons, List.not_mem_nil, or_false] at hi; exact .inr (by omega))⟩
  exact hfs _ (by repeat' first | with_reducible exact Fr.refl _ _ | with_reducible refine Fr.drew ?_ | refine Fr.setCell ?_ (.inl (by simp)) _)

set_option maxHeartbeats 4000000 in
set_option maxRecDepth 100000 in
theorem sr_readrune_some (hk : o.kind = k_readrune) (hb : s.text ≠ []) : Calls Tryd.prog 69 #[s.val, o.val] w (SPost s o w) := by
  obtain ⟨kind, text, size, n, char⟩ := o
  obtain ⟨stext, recent, last, begun⟩ := s
  obtain ⟨hr6, hl4, hwh⟩ := hs
  obtain ⟨hsz, hn0, hn1, hc0, hc1⟩ := ho
  simp only at hk hr6 hl4 hwh hsz hn0 hn1 hc0 hc1 hl
  subst hk
  simp only at hb
  have HM := Lib.hid ((callS_of _ _ (by show k_readrune ≠ k_writerune; decide)).trans ((callM_readrune ⟨stext, recent, last, begun⟩ ⟨k_readrune, text, size, n, char⟩ rfl).trans (if_neg hb)))
  try simp only at HM
  have HWH := Lib.hid hwh
  clear hwh
  unfold Sta.val OpV.val
  obtain ⟨mm, hmm⟩ : ∃ mm, min size stext.length = mm := ⟨_, rfl⟩
  have hmi : min (size : Int) (stext.length : Int) = (mm : Int) := by omega
  have hml : mm ≤ stext.length := by omega
  have hds := dec_size stext hb
  have HD := Lib.hid fun W => spec_Decode stext W (List.length_pos_iff.2 hb) (by omega)
  have hbn : (stext == []) = false := by simpa using hb
  have HR := Lib.hid fun (k : Nat) (hk : k ≤ stext.length) W => State_read2 ⟨stext, recent, last, begun⟩ k W (by simp only; omega) (by simp only; omega)
  clear hb hmm
  go_enter Tryd.func69, Tryd.ntmps69
  go_wp2_with fail
  refine (HD.out _).mono ?_
  rintro e w1 ⟨r, k, rfl, HRK, rfl⟩
  have hkk : k ≤ stext.length := by have := HRK.out; rw [← this] at hds; omega
  have HW := Lib.hid (HR.out k hkk)
  have HM2 : Hid (callS ⟨stext, recent, last, begun⟩ ⟨k_readrune, text, size, n, char⟩ = (Sta.rd ⟨stext, recent, last, begun⟩ k 2, ⟨[], (k : Int), (r : Int), []⟩, true)) := by
    have h1 := HM.out
    rw [← HRK.out] at h1
    exact h1
  generalize hwr : Sta.rd ⟨stext, recent, last, begun⟩ k 2 = sw at *
  unfold Sta.val at HW
  clear hwr HR hds HRK HM HD
  go_wp2_with fail
  refine (HW.out _).mono ?_
  rintro e w2 ⟨rfl, hf02⟩
  have hf12 := fr_four hf02 (by simp)
  obtain ⟨c00, c01, c02, c03, c10, c11, c12, c13, c14, c20, f20, c21, f21, c22, f22, c23, f23, c30, f30, c31, f31, c32, f32, c33, f33⟩ := four_facts hf02
  go_wp2_with fail
  refine bodyPost_ret (v := .tuple #[.agg #[.string ⟨sw.text.toArray⟩, .int .i64 (sw.recent : Int), .string ⟨sw.last.toArray⟩, .bool sw.begun], .agg #[.string ⟨#[]⟩, .int .i64 (k : Int), .int .i32 (r : Int), .string ⟨#[]⟩], .bool true]) (by simp [results, Tryd.results69, go_sem, c20, c21, c22, c23, c30, c31, c32, c33]) rfl ?_
  have hfs : ∀ w3, Fr [w.heap.size + 1 + 1, w.heap.size + 1 + 1 + 1] w2 w3 → SPost _ _ w (.returned (.tuple #[.agg #[.string ⟨sw.text.toArray⟩, .int .i64 (sw.recent : Int), .string ⟨sw.last.toArray⟩, .bool sw.begun], .agg #[.string ⟨#[]⟩, .int .i64 (k : Int), .int .i32 (r : Int), .string ⟨#[]⟩], .bool true])) w3 := fun w3 hf3 => ⟨_, _, true, rfl, HM2, hf12.trans_of hf3 (by intro i hi; simp only [List.mem_cons, List.not_mem_nil, or_false] at hi; exact .inr (by omega))⟩
  exact hfs _ (by repeat' first | with_reducible exact Fr.refl _ _ | with_reducible refine Fr.drew ?_ | refine Fr.setCell ?_ (.inl (by simp)) _)

set_option maxHeartbeats 4000000 in
set_option maxRecDepth 100000 in
theorem sr_readbytes_miss (hk : o.kind = k_readbytes) (hb : misses s.text (UInt8.ofNat o.size) = true) : Calls Tryd.prog 69 #[s.val, o.val] w (SPost s o w) := by
  obtain ⟨kind, text, size, n, char⟩ := o
  obtain ⟨stext, recent, last, begun⟩ := s
  obtain ⟨hr6, hl4, hwh⟩ := hs
  obtain ⟨hsz, hn0, hn1, hc0, hc1⟩ := ho
  simp only at hk hr6 hl4 hwh hsz hn0 hn1 hc0 hc1 hl
  subst hk
  simp only at hb
  have HM := Lib.hid ((callS_of _ _ (by show k_readbytes ≠ k_writerune; decide)).trans ((callM_readbytes ⟨stext, recent, last, begun⟩ ⟨k_readbytes, text, size, n, char⟩ rfl).trans (if_pos hb)))
  try simp only at HM
  have HWH := Lib.hid hwh
  clear hwh
  unfold Sta.val OpV.val
  obtain ⟨mm, hmm⟩ : ∃ mm, min size stext.length = mm := ⟨_, rfl⟩
  have hmi : min (size : Int) (stext.length : Int) = (mm : Int) := by omega
  have hml : mm ≤ stext.length := by omega
  have hmi2 : ¬ stext.idxOf (UInt8.ofNat size) < stext.length := by simpa [misses] using hb
  have HI := Lib.hid fun W => spec_Index stext (UInt8.ofNat size) W (by omega)
  rw [show ((UInt8.ofNat size).toNat : Int) = (size : Int) % 256 by simp, idxI_none hmi2] at HI
  clear hb hmi2 hmm
  go_enter Tryd.func69, Tryd.ntmps69
  go_wp2_with fail
  refine (HI.out _).mono ?_
  rintro e w1 ⟨rfl, rfl⟩
  go_wp2_with fail
  go_region
  all_goals
    go_wp2_with fail
    refine bodyPost_ret (v := .tuple #[.agg #[.string ⟨#[]⟩, .int .i64 5, .string ⟨#[]⟩, .bool true], .agg #[.string ⟨stext.toArray⟩, .int .i64 0, .int .i32 0, .string ⟨#[101, 110, 100]⟩], .bool true]) (by simp [results, Tryd.results69, go_sem]) rfl ?_
    exact ⟨_, _, true, rfl, HM, (by repeat' first | with_reducible exact Fr.refl _ _ | with_reducible refine Fr.alloc ?_ _ | with_reducible refine Fr.drew ?_ | refine Fr.setCell ?_ (.inr (by simp)) _)⟩

set_option maxHeartbeats 4000000 in
set_option maxRecDepth 100000 in
theorem sr_readbytes_hit (hk : o.kind = k_readbytes) (hb : ¬ misses s.text (UInt8.ofNat o.size) = true) : Calls Tryd.prog 69 #[s.val, o.val] w (SPost s o w) := by
  obtain ⟨kind, text, size, n, char⟩ := o
  obtain ⟨stext, recent, last, begun⟩ := s
  obtain ⟨hr6, hl4, hwh⟩ := hs
  obtain ⟨hsz, hn0, hn1, hc0, hc1⟩ := ho
  simp only at hk hr6 hl4 hwh hsz hn0 hn1 hc0 hc1 hl
  subst hk
  simp only at hb
  have HM := Lib.hid ((callS_of _ _ (by show k_readbytes ≠ k_writerune; decide)).trans ((callM_readbytes ⟨stext, recent, last, begun⟩ ⟨k_readbytes, text, size, n, char⟩ rfl).trans (if_neg hb)))
  try simp only at HM
  have HWH := Lib.hid hwh
  clear hwh
  unfold Sta.val OpV.val
  obtain ⟨mm, hmm⟩ : ∃ mm, min size stext.length = mm := ⟨_, rfl⟩
  have hmi : min (size : Int) (stext.length : Int) = (mm : Int) := by omega
  have hml : mm ≤ stext.length := by omega
  have hmi2 : stext.idxOf (UInt8.ofNat size) < stext.length := by simpa [misses] using hb
  have HI := Lib.hid fun W => spec_Index stext (UInt8.ofNat size) W (by omega)
  rw [show ((UInt8.ofNat size).toNat : Int) = (size : Int) % 256 by simp, idxI_some hmi2] at HI
  unfold line at HM
  generalize stext.idxOf (UInt8.ofNat size) = j at *
  have HW := Lib.hid fun W => State_read1 ⟨stext, recent, last, begun⟩ (j + 1) W (by simp only; omega) (by simp only; omega)
  generalize hwr : Sta.rd ⟨stext, recent, last, begun⟩ (j + 1) 1 = sw at *
  unfold Sta.val at HW
  rw [Int.natCast_add, Int.natCast_one] at HW
  clear hwr
  have hwr1 : IntKind.i64.wrap ((j : Int) + 1) = (j : Int) + 1 := IntWalk.i64_in _ (by omega)
  have hj1 : j + 1 ≤ stext.length := by omega
  clear hb hmi2 hmm
  go_enter Tryd.func69, Tryd.ntmps69
  go_wp2_with fail
  refine (HI.out _).mono ?_
  rintro e w1 ⟨rfl, rfl⟩
  go_wp2_with fail
  go_region_with ((go_at_call 85; ((with_reducible refine (HW.out _).mono ?_); rintro e w2 ⟨rfl, hf2⟩; have hf02 := ((Fr.refl [] _).drew).trans hf2; have hf12 := fr_four hf02 (by simp); obtain ⟨c00, c01, c02, c03, c10, c11, c12, c13, c14, c20, f20, c21, f21, c22, f22, c23, f23, c30, f30, c31, f31, c32, f32, c33, f33⟩ := four_facts hf02)))
  all_goals
    go_wp2_with fail
    refine bodyPost_ret (v := .tuple #[.agg #[.string ⟨sw.text.toArray⟩, .int .i64 (sw.recent : Int), .string ⟨sw.last.toArray⟩, .bool sw.begun], .agg #[.string ⟨(stext.take (j + 1)).toArray⟩, .int .i64 0, .int .i32 0, .string ⟨#[]⟩], .bool true]) (by simp [results, Tryd.results69, go_sem, c20, c21, c22, c23, c30, c31, c32, c33]) rfl ?_
    have hfs : ∀ w3, Fr [w.heap.size + 1 + 1, w.heap.size + 1 + 1 + 1] w2 w3 → SPost _ _ w (.returned (.tuple #[.agg #[.string ⟨sw.text.toArray⟩, .int .i64 (sw.recent : Int), .string ⟨sw.last.toArray⟩, .bool sw.begun], .agg #[.string ⟨(stext.take (j + 1)).toArray⟩, .int .i64 0, .int .i32 0, .string ⟨#[]⟩], .bool true])) w3 := fun w3 hf3 => ⟨_, _, true, rfl, HM, hf12.trans_of hf3 (by intro i hi; simp only [List.mem_cons, List.not_mem_nil, or_false] at hi; exact .inr (by omega))⟩
    exact hfs _ (by repeat' first | with_reducible exact Fr.refl _ _ | with_reducible refine Fr.drew ?_ | refine Fr.setCell ?_ (.inl (by simp)) _)

set_option maxHeartbeats 4000000 in
set_option maxRecDepth 100000 in
theorem sr_readstring_miss (hk : o.kind = k_readstring) (hb : misses s.text (UInt8.ofNat o.size) = true) : Calls Tryd.prog 69 #[s.val, o.val] w (SPost s o w) := by
  obtain ⟨kind, text, size, n, char⟩ := o
  obtain ⟨stext, recent, last, begun⟩ := s
  obtain ⟨hr6, hl4, hwh⟩ := hs
  obtain ⟨hsz, hn0, hn1, hc0, hc1⟩ := ho
  simp only at hk hr6 hl4 hwh hsz hn0 hn1 hc0 hc1 hl
  subst hk
  simp only at hb
  have HM := Lib.hid ((callS_of _ _ (by show k_readstring ≠ k_writerune; decide)).trans ((callM_readstring ⟨stext, recent, last, begun⟩ ⟨k_readstring, text, size, n, char⟩ rfl).trans (if_pos hb)))
  try simp only at HM
  have HWH := Lib.hid hwh
  clear hwh
  unfold Sta.val OpV.val
  obtain ⟨mm, hmm⟩ : ∃ mm, min size stext.length = mm := ⟨_, rfl⟩
  have hmi : min (size : Int) (stext.length : Int) = (mm : Int) := by omega
  have hml : mm ≤ stext.length := by omega
  have hmi2 : ¬ stext.idxOf (UInt8.ofNat size) < stext.length := by simpa [misses] using hb
  have HI := Lib.hid fun W => spec_Index stext (UInt8.ofNat size) W (by omega)
  rw [show ((UInt8.ofNat size).toNat : Int) = (size : Int) % 256 by simp, idxI_none hmi2] at HI
  clear hb hmi2 hmm
  go_enter Tryd.func69, Tryd.ntmps69
  go_wp2_with fail
  refine (HI.out _).mono ?_
  rintro e w1 ⟨rfl, rfl⟩
  go_wp2_with fail
  go_region
  all_goals
    go_wp2_with fail
    refine bodyPost_ret (v := .tuple #[.agg #[.string ⟨#[]⟩, .int .i64 5, .string ⟨#[]⟩, .bool true], .agg #[.string ⟨stext.toArray⟩, .int .i64 0, .int .i32 0, .string ⟨#[101, 110, 100]⟩], .bool true]) (by simp [results, Tryd.results69, go_sem]) rfl ?_
    exact ⟨_, _, true, rfl, HM, (by repeat' first | with_reducible exact Fr.refl _ _ | with_reducible refine Fr.alloc ?_ _ | with_reducible refine Fr.drew ?_ | refine Fr.setCell ?_ (.inr (by simp)) _)⟩

set_option maxHeartbeats 4000000 in
set_option maxRecDepth 100000 in
theorem sr_readstring_hit (hk : o.kind = k_readstring) (hb : ¬ misses s.text (UInt8.ofNat o.size) = true) : Calls Tryd.prog 69 #[s.val, o.val] w (SPost s o w) := by
  obtain ⟨kind, text, size, n, char⟩ := o
  obtain ⟨stext, recent, last, begun⟩ := s
  obtain ⟨hr6, hl4, hwh⟩ := hs
  obtain ⟨hsz, hn0, hn1, hc0, hc1⟩ := ho
  simp only at hk hr6 hl4 hwh hsz hn0 hn1 hc0 hc1 hl
  subst hk
  simp only at hb
  have HM := Lib.hid ((callS_of _ _ (by show k_readstring ≠ k_writerune; decide)).trans ((callM_readstring ⟨stext, recent, last, begun⟩ ⟨k_readstring, text, size, n, char⟩ rfl).trans (if_neg hb)))
  try simp only at HM
  have HWH := Lib.hid hwh
  clear hwh
  unfold Sta.val OpV.val
  obtain ⟨mm, hmm⟩ : ∃ mm, min size stext.length = mm := ⟨_, rfl⟩
  have hmi : min (size : Int) (stext.length : Int) = (mm : Int) := by omega
  have hml : mm ≤ stext.length := by omega
  have hmi2 : stext.idxOf (UInt8.ofNat size) < stext.length := by simpa [misses] using hb
  have HI := Lib.hid fun W => spec_Index stext (UInt8.ofNat size) W (by omega)
  rw [show ((UInt8.ofNat size).toNat : Int) = (size : Int) % 256 by simp, idxI_some hmi2] at HI
  unfold line at HM
  generalize stext.idxOf (UInt8.ofNat size) = j at *
  have HW := Lib.hid fun W => State_read1 ⟨stext, recent, last, begun⟩ (j + 1) W (by simp only; omega) (by simp only; omega)
  generalize hwr : Sta.rd ⟨stext, recent, last, begun⟩ (j + 1) 1 = sw at *
  unfold Sta.val at HW
  rw [Int.natCast_add, Int.natCast_one] at HW
  clear hwr
  have hwr1 : IntKind.i64.wrap ((j : Int) + 1) = (j : Int) + 1 := IntWalk.i64_in _ (by omega)
  have hj1 : j + 1 ≤ stext.length := by omega
  clear hb hmi2 hmm
  go_enter Tryd.func69, Tryd.ntmps69
  go_wp2_with fail
  refine (HI.out _).mono ?_
  rintro e w1 ⟨rfl, rfl⟩
  go_wp2_with fail
  go_region_with ((go_at_call 85; ((with_reducible refine (HW.out _).mono ?_); rintro e w2 ⟨rfl, hf2⟩; have hf02 := ((Fr.refl [] _).drew).trans hf2; have hf12 := fr_four hf02 (by simp); obtain ⟨c00, c01, c02, c03, c10, c11, c12, c13, c14, c20, f20, c21, f21, c22, f22, c23, f23, c30, f30, c31, f31, c32, f32, c33, f33⟩ := four_facts hf02)))
  all_goals
    go_wp2_with fail
    refine bodyPost_ret (v := .tuple #[.agg #[.string ⟨sw.text.toArray⟩, .int .i64 (sw.recent : Int), .string ⟨sw.last.toArray⟩, .bool sw.begun], .agg #[.string ⟨(stext.take (j + 1)).toArray⟩, .int .i64 0, .int .i32 0, .string ⟨#[]⟩], .bool true]) (by simp [results, Tryd.results69, go_sem, c20, c21, c22, c23, c30, c31, c32, c33]) rfl ?_
    have hfs : ∀ w3, Fr [w.heap.size + 1 + 1, w.heap.size + 1 + 1 + 1] w2 w3 → SPost _ _ w (.returned (.tuple #[.agg #[.string ⟨sw.text.toArray⟩, .int .i64 (sw.recent : Int), .string ⟨sw.last.toArray⟩, .bool sw.begun], .agg #[.string ⟨(stext.take (j + 1)).toArray⟩, .int .i64 0, .int .i32 0, .string ⟨#[]⟩], .bool true])) w3 := fun w3 hf3 => ⟨_, _, true, rfl, HM, hf12.trans_of hf3 (by intro i hi; simp only [List.mem_cons, List.not_mem_nil, or_false] at hi; exact .inr (by omega))⟩
    exact hfs _ (by repeat' first | with_reducible exact Fr.refl _ _ | with_reducible refine Fr.drew ?_ | refine Fr.setCell ?_ (.inl (by simp)) _)

end
end Go.Proofs.YtgjaeggpaomoaaaDoor
