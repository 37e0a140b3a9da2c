/- A script's calls on a buffer (second part). -/
import Derived.Test.YtgjaeggpaomoaaaDoorCall1
import Derived.Test.YtgjaeggpaomoaaaDoorBufRune
import Derived.Test.YtgjaeggpaomoaaaDoorBufGrow
import Derived.Test.YtgjaeggpaomoaaaDoorGrowL
import Derived.Test.YtgjaeggpaomoaaaDoorTrunc
import Derived.Test.YtgjaeggpaomoaaaDoorLawZ
namespace Go.Proofs.YtgjaeggpaomoaaaDoor
open Go.RowKit
set_option linter.unusedVariables false
set_option linter.unusedSectionVars false
attribute [local go_sem ↓] Go.wp_at_zero Go.wp_at_succ

theorem unread_back (row : List UInt8) (len off k : Nat) (last pre : List UInt8) (hp : row.take off = pre ++ last) (hk : last.length = k) (ho : off ≤ len) (hl : len ≤ row.length) : unread row len (off - k) = last ++ unread row len off := by
  have h1 := congrArg List.length hp
  simp only [List.length_take, List.length_append] at h1
  have h2 : row.take len = (pre ++ last) ++ (row.take len).drop off := by rw [← hp, show row.take off = (row.take len).take off by rw [List.take_take, Nat.min_eq_left ho], List.take_append_drop]
  unfold unread
  conv => lhs; rw [h2]
  rw [List.append_assoc, show off - k = pre.length by omega, List.drop_left]

section
variable {W b : Nat} {s : Sta} {g : Option Nat} {row : List UInt8} {len off : Nat} {lr : Int} (w : World) (h : Scr W w b s g row len off lr) (hWw : W ≤ w.heap.size) (o : OpV)
include h hWw

set_option maxHeartbeats 4000000 in
set_option maxRecDepth 100000 in
theorem call_readbyte_eof (hk : o.kind = k_readbyte) (a c : Addr) (hV : Env W w a c) (hb : s.text = []) : Calls Tryd.prog 29 #[.pointer (some ⟨b, 0, none⟩), o.val] w (CallPost W b s o g len w) := by
  obtain ⟨kind, text, size, n, char⟩ := o
  simp only at hk
  subst hk
  have HM := Lib.hid (callM_readbyte s ⟨k_readbyte, text, size, n, char⟩ rfl)
  try simp only at HM
  try simp only at hb
  have hbl : b < w.heap.size := h.bw.buf.blk.lt
  have hgl : ∀ x, g = some x → x < w.heap.size := fun x e => (h.bw.buf.some_ x e).2.lt
  have hcap := h.bw.buf.cap_le
  have hlen := h.bw.buf.len_le
  have hlo := h.bw.len_
  have hlr4 := h.rec_.le4
  have hlow := hV.low
  have hWb := h.bw.b_
  have hEo := fun o1 o2 o3 => hV.eof.fr_old ((((Fr.refl [] w).alloc o1).alloc o2).alloc o3) (by simp)
  have hTo := fun o1 o2 o3 => hV.tabs.fr_old ((((Fr.refl [] w).alloc o1).alloc o2).alloc o3) (by simp)
  have hUo := fun o1 o2 o3 => hV.unr.fr_old ((((Fr.refl [] w).alloc o1).alloc o2).alloc o3) (by simp)
  have HV := Lib.hid hV
  rw [if_pos hb] at HM
  have HL := Lib.hid fun o1 o2 o3 => Buffer_ReadByte_eof _ (((h.bw.buf.alloc o1).alloc o2).alloc o3) (by rw [hb] at hlo; simp at hlo; have := h.bw.buf.off_le; omega) a (hEo o1 o2 o3) (by omega)
  clear hEo hTo hUo hV
  have H := Lib.hid h
  clear h
  unfold OpV.val
  go_enter Tryd.func29, Tryd.ntmps29
  go_wp2_with fail
  refine (HL.out _ _ _).mono ?_
  rintro e w2 ⟨rfl, hB2, hf2⟩
  obtain ⟨k1, k2⟩ := two_facts hf2 (by simp; omega)
  have k1c0 : w2.cell? ⟨w.heap.size + 1, 0, none⟩ = some (.string ⟨#[]⟩) := k1.cell 0
  have k1f0 := k1.frozen 0
  have k1c1 : w2.cell? ⟨w.heap.size + 1, 1, none⟩ = some (.int .i64 0) := k1.cell 1
  have k1f1 := k1.frozen 1
  have k1c2 : w2.cell? ⟨w.heap.size + 1, 2, none⟩ = some (.int .i32 0) := k1.cell 2
  have k1f2 := k1.frozen 2
  have k1c3 : w2.cell? ⟨w.heap.size + 1, 3, none⟩ = some (.string ⟨#[]⟩) := k1.cell 3
  have k1f3 := k1.frozen 3
  have k2c0 : w2.cell? ⟨w.heap.size + 1 + 1, 0, none⟩ = some (.string ⟨#[]⟩) := k2.cell 0
  have k2f0 := k2.frozen 0
  have k2c1 : w2.cell? ⟨w.heap.size + 1 + 1, 1, none⟩ = some (.int .i64 0) := k2.cell 1
  have k2f1 := k2.frozen 1
  have k2c2 : w2.cell? ⟨w.heap.size + 1 + 1, 2, none⟩ = some (.int .i32 0) := k2.cell 2
  have k2f2 := k2.frozen 2
  have k2c3 : w2.cell? ⟨w.heap.size + 1 + 1, 3, none⟩ = some (.string ⟨#[]⟩) := k2.cell 3
  have k2f3 := k2.frozen 3
  clear k1 k2
  have hf12 : Fr (b :: g.toList) w w2 := fr_three hf2 (by simp)
  have hE2 : Eof w2 a := HV.out.eof.fr hf12 (by simp only [List.mem_cons, Option.mem_toList]; rintro (rfl | hi); omega; have := H.out.bw.new_ _ hi; omega)
  have hS2 : Scr W w2 b (s.rd 0 1) g row 0 0 0 := ⟨H.out.bw.same hB2 (by rw [rd_text, hb]; simp [unread]), by simp [RecOk, Sta.rd]⟩
  have HS2 := Lib.hid hS2
  have HB := Lib.hid hb
  clear hB2 hS2 hb
  go_wp2_with fail
  refine (told_end _ a hE2).mono ?_
  rintro e w3 ⟨rfl, rfl⟩
  go_wp2_with fail
  refine bodyPost_ret (v := .agg #[.string ⟨#[]⟩, .int .i64 0, .int .i32 0, .string ⟨#[101, 110, 100]⟩]) (by simp [results, Tryd.results29, go_sem, k1c0, k1c1, k1c2, k1c3]) rfl ?_
  have hfs : ∀ w3, Fr [w.heap.size + 1, w.heap.size + 1 + 1] w2 w3 → CallPost W b s _ g len w (.returned (.agg #[.string ⟨#[]⟩, .int .i64 0, .int .i32 0, .string ⟨#[101, 110, 100]⟩])) w3 := fun w3 hf3 =>
    (callPost_known (st := ⟨[], 0, 0, [101, 110, 100]⟩) HM.out (hf12.trans_of hf3 (by simp; omega)) (HS2.out.fr hf3 (by simp; omega) (fun x e => by have := hgl x e; simp; omega)) (by show 0 ≤ len + text.length + 4; omega) :)
  exact hfs _ (by repeat (first | refine Fr.setCell ?_ (.inl (by simp)) _ | exact Fr.refl _ _))

set_option maxHeartbeats 4000000 in
set_option maxRecDepth 100000 in
theorem call_readbyte_some (hk : o.kind = k_readbyte) (a c : Addr) (hV : Env W w a c) (hb : ¬ s.text = []) : Calls Tryd.prog 29 #[.pointer (some ⟨b, 0, none⟩), o.val] w (CallPost W b s o g len w) := by
  obtain ⟨kind, text, size, n, char⟩ := o
  simp only at hk
  subst hk
  have HM := Lib.hid (callM_readbyte s ⟨k_readbyte, text, size, n, char⟩ rfl)
  try simp only at HM
  try simp only at hb
  have hbl : b < w.heap.size := h.bw.buf.blk.lt
  have hgl : ∀ x, g = some x → x < w.heap.size := fun x e => (h.bw.buf.some_ x e).2.lt
  have hcap := h.bw.buf.cap_le
  have hlen := h.bw.buf.len_le
  have hlo := h.bw.len_
  have hlr4 := h.rec_.le4
  have hlow := hV.low
  have hWb := h.bw.b_
  have hEo := fun o1 o2 o3 => hV.eof.fr_old ((((Fr.refl [] w).alloc o1).alloc o2).alloc o3) (by simp)
  have hTo := fun o1 o2 o3 => hV.tabs.fr_old ((((Fr.refl [] w).alloc o1).alloc o2).alloc o3) (by simp)
  have hUo := fun o1 o2 o3 => hV.unr.fr_old ((((Fr.refl [] w).alloc o1).alloc o2).alloc o3) (by simp)
  have HV := Lib.hid hV
  rw [if_neg hb] at HM
  obtain ⟨x, t, hxt⟩ : ∃ x t, s.text = x :: t := by cases hq : s.text with | nil => exact absurd hq hb | cons x t => exact ⟨x, t, rfl⟩
  have HL := Lib.hid fun o1 o2 o3 => Buffer_ReadByte_some _ (((h.bw.buf.alloc o1).alloc o2).alloc o3) x t (by rw [h.bw.reads, hxt])
  have HX := Lib.hid hxt
  have hx256 : x.toNat < 256 := x.toNat_lt
  clear hEo hTo hUo hV hxt
  have H := Lib.hid h
  clear h
  unfold OpV.val
  go_enter Tryd.func29, Tryd.ntmps29
  go_wp2_with fail
  refine (HL.out _ _ _).mono ?_
  rintro e w2 ⟨rfl, hB2, hf2⟩
  obtain ⟨k1, k2⟩ := two_facts hf2 (by simp; omega)
  have k1c0 : w2.cell? ⟨w.heap.size + 1, 0, none⟩ = some (.string ⟨#[]⟩) := k1.cell 0
  have k1f0 := k1.frozen 0
  have k1c1 : w2.cell? ⟨w.heap.size + 1, 1, none⟩ = some (.int .i64 0) := k1.cell 1
  have k1f1 := k1.frozen 1
  have k1c2 : w2.cell? ⟨w.heap.size + 1, 2, none⟩ = some (.int .i32 0) := k1.cell 2
  have k1f2 := k1.frozen 2
  have k1c3 : w2.cell? ⟨w.heap.size + 1, 3, none⟩ = some (.string ⟨#[]⟩) := k1.cell 3
  have k1f3 := k1.frozen 3
  have k2c0 : w2.cell? ⟨w.heap.size + 1 + 1, 0, none⟩ = some (.string ⟨#[]⟩) := k2.cell 0
  have k2f0 := k2.frozen 0
  have k2c1 : w2.cell? ⟨w.heap.size + 1 + 1, 1, none⟩ = some (.int .i64 0) := k2.cell 1
  have k2f1 := k2.frozen 1
  have k2c2 : w2.cell? ⟨w.heap.size + 1 + 1, 2, none⟩ = some (.int .i32 0) := k2.cell 2
  have k2f2 := k2.frozen 2
  have k2c3 : w2.cell? ⟨w.heap.size + 1 + 1, 3, none⟩ = some (.string ⟨#[]⟩) := k2.cell 3
  have k2f3 := k2.frozen 3
  clear k1 k2
  have hf12 : Fr (b :: g.toList) w w2 := fr_three hf2 (by simp)
  have hx0 : byteAt s.text 0 = x.toNat := by rw [HX.out]; rfl
  have hS2 : Scr W w2 b (s.rd 1 1) g row len (off + 1) (-1) := by
    have hl1 : s.text.length = t.length + 1 := by rw [HX.out]; simp
    have hr := RecOk.rd1 s row len off 1 H.out.bw.reads (by omega) (by have := hB2.off_le; omega)
    refine ⟨H.out.bw.same hB2 ?_, by simpa using hr⟩
    rw [rd_text, show unread row len (off + 1) = (unread row len off).drop 1 by simp [unread, List.drop_drop], H.out.bw.reads]
  have HS2 := Lib.hid hS2
  have HX0 := Lib.hid hx0
  rw [hx0] at HM
  clear hB2 hS2 hx0
  go_wp2_with fail
  refine (told_nil _).mono ?_
  rintro e w3 ⟨rfl, rfl⟩
  go_wp2_with fail
  refine bodyPost_ret (v := .agg #[.string ⟨#[]⟩, .int .i64 (x.toNat : Int), .int .i32 0, .string ⟨#[]⟩]) (by simp [results, Tryd.results29, go_sem, k1c0, k1c1, k1c2, k1c3]) rfl ?_
  have hfs : ∀ w3, Fr [w.heap.size + 1, w.heap.size + 1 + 1] w2 w3 → CallPost W b s _ g len w (.returned (.agg #[.string ⟨#[]⟩, .int .i64 (x.toNat : Int), .int .i32 0, .string ⟨#[]⟩])) w3 := fun w3 hf3 =>
    (callPost_known (st := ⟨[], (x.toNat : Int), 0, []⟩) HM.out (hf12.trans_of hf3 (by simp; omega)) (HS2.out.fr hf3 (by simp; omega) (fun x e => by have := hgl x e; simp; omega)) (by show len ≤ len + text.length + 4; omega) :)
  exact hfs _ (by repeat (first | refine Fr.setCell ?_ (.inl (by simp)) _ | exact Fr.refl _ _))

set_option maxHeartbeats 4000000 in
set_option maxRecDepth 100000 in
theorem call_readrune_eof (hk : o.kind = k_readrune) (a c : Addr) (hV : Env W w a c) (hb : s.text = []) : Calls Tryd.prog 29 #[.pointer (some ⟨b, 0, none⟩), o.val] w (CallPost W b s o g len w) := by
  obtain ⟨kind, text, size, n, char⟩ := o
  simp only at hk
  subst hk
  have HM := Lib.hid (callM_readrune s ⟨k_readrune, text, size, n, char⟩ rfl)
  try simp only at HM
  try simp only at hb
  have hbl : b < w.heap.size := h.bw.buf.blk.lt
  have hgl : ∀ x, g = some x → x < w.heap.size := fun x e => (h.bw.buf.some_ x e).2.lt
  have hcap := h.bw.buf.cap_le
  have hlen := h.bw.buf.len_le
  have hlo := h.bw.len_
  have hlr4 := h.rec_.le4
  have hlow := hV.low
  have hWb := h.bw.b_
  have hEo := fun o1 o2 o3 => hV.eof.fr_old ((((Fr.refl [] w).alloc o1).alloc o2).alloc o3) (by simp)
  have hTo := fun o1 o2 o3 => hV.tabs.fr_old ((((Fr.refl [] w).alloc o1).alloc o2).alloc o3) (by simp)
  have hUo := fun o1 o2 o3 => hV.unr.fr_old ((((Fr.refl [] w).alloc o1).alloc o2).alloc o3) (by simp)
  have HV := Lib.hid hV
  rw [if_pos hb] at HM
  have HL := Lib.hid fun o1 o2 o3 => Buffer_ReadRune_eof _ (((h.bw.buf.alloc o1).alloc o2).alloc o3) (by rw [hb] at hlo; simp at hlo; have := h.bw.buf.off_le; omega) a (hEo o1 o2 o3) (by omega)
  clear hEo hTo hUo hV
  have H := Lib.hid h
  clear h
  unfold OpV.val
  go_enter Tryd.func29, Tryd.ntmps29
  go_wp2_with fail
  refine (HL.out _ _ _).mono ?_
  rintro e w2 ⟨rfl, hB2, hf2⟩
  obtain ⟨k1, k2⟩ := two_facts hf2 (by simp; omega)
  have k1c0 : w2.cell? ⟨w.heap.size + 1, 0, none⟩ = some (.string ⟨#[]⟩) := k1.cell 0
  have k1f0 := k1.frozen 0
  have k1c1 : w2.cell? ⟨w.heap.size + 1, 1, none⟩ = some (.int .i64 0) := k1.cell 1
  have k1f1 := k1.frozen 1
  have k1c2 : w2.cell? ⟨w.heap.size + 1, 2, none⟩ = some (.int .i32 0) := k1.cell 2
  have k1f2 := k1.frozen 2
  have k1c3 : w2.cell? ⟨w.heap.size + 1, 3, none⟩ = some (.string ⟨#[]⟩) := k1.cell 3
  have k1f3 := k1.frozen 3
  have k2c0 : w2.cell? ⟨w.heap.size + 1 + 1, 0, none⟩ = some (.string ⟨#[]⟩) := k2.cell 0
  have k2f0 := k2.frozen 0
  have k2c1 : w2.cell? ⟨w.heap.size + 1 + 1, 1, none⟩ = some (.int .i64 0) := k2.cell 1
  have k2f1 := k2.frozen 1
  have k2c2 : w2.cell? ⟨w.heap.size + 1 + 1, 2, none⟩ = some (.int .i32 0) := k2.cell 2
  have k2f2 := k2.frozen 2
  have k2c3 : w2.cell? ⟨w.heap.size + 1 + 1, 3, none⟩ = some (.string ⟨#[]⟩) := k2.cell 3
  have k2f3 := k2.frozen 3
  clear k1 k2
  have hf12 : Fr (b :: g.toList) w w2 := fr_three hf2 (by simp)
  have hE2 : Eof w2 a := HV.out.eof.fr hf12 (by simp only [List.mem_cons, Option.mem_toList]; rintro (rfl | hi); omega; have := H.out.bw.new_ _ hi; omega)
  have hS2 : Scr W w2 b (s.rd 0 2) g row 0 0 0 := ⟨H.out.bw.same hB2 (by rw [rd_text, hb]; simp [unread]), by simp [RecOk, Sta.rd]⟩
  have HS2 := Lib.hid hS2
  have HB := Lib.hid hb
  clear hB2 hS2 hb
  go_wp2_with fail
  refine (told_end _ a hE2).mono ?_
  rintro e w3 ⟨rfl, rfl⟩
  go_wp2_with fail
  refine bodyPost_ret (v := .agg #[.string ⟨#[]⟩, .int .i64 0, .int .i32 0, .string ⟨#[101, 110, 100]⟩]) (by simp [results, Tryd.results29, go_sem, k1c0, k1c1, k1c2, k1c3]) rfl ?_
  have hfs : ∀ w3, Fr [w.heap.size + 1, w.heap.size + 1 + 1] w2 w3 → CallPost W b s _ g len w (.returned (.agg #[.string ⟨#[]⟩, .int .i64 0, .int .i32 0, .string ⟨#[101, 110, 100]⟩])) w3 := fun w3 hf3 =>
    (callPost_known (st := ⟨[], 0, 0, [101, 110, 100]⟩) HM.out (hf12.trans_of hf3 (by simp; omega)) (HS2.out.fr hf3 (by simp; omega) (fun x e => by have := hgl x e; simp; omega)) (by show 0 ≤ len + text.length + 4; omega) :)
  exact hfs _ (by repeat (first | refine Fr.setCell ?_ (.inl (by simp)) _ | exact Fr.refl _ _))

set_option maxHeartbeats 4000000 in
set_option maxRecDepth 100000 in
theorem call_readrune_some (hk : o.kind = k_readrune) (a c : Addr) (hV : Env W w a c) (hb : ¬ s.text = []) : Calls Tryd.prog 29 #[.pointer (some ⟨b, 0, none⟩), o.val] w (CallPost W b s o g len w) := by
  obtain ⟨kind, text, size, n, char⟩ := o
  simp only at hk
  subst hk
  have HM := Lib.hid (callM_readrune s ⟨k_readrune, text, size, n, char⟩ rfl)
  try simp only at HM
  try simp only at hb
  have hbl : b < w.heap.size := h.bw.buf.blk.lt
  have hgl : ∀ x, g = some x → x < w.heap.size := fun x e => (h.bw.buf.some_ x e).2.lt
  have hcap := h.bw.buf.cap_le
  have hlen := h.bw.buf.len_le
  have hlo := h.bw.len_
  have hlr4 := h.rec_.le4
  have hlow := hV.low
  have hWb := h.bw.b_
  have hEo := fun o1 o2 o3 => hV.eof.fr_old ((((Fr.refl [] w).alloc o1).alloc o2).alloc o3) (by simp)
  have hTo := fun o1 o2 o3 => hV.tabs.fr_old ((((Fr.refl [] w).alloc o1).alloc o2).alloc o3) (by simp)
  have hUo := fun o1 o2 o3 => hV.unr.fr_old ((((Fr.refl [] w).alloc o1).alloc o2).alloc o3) (by simp)
  have HV := Lib.hid hV
  rw [if_neg hb] at HM
  have HL := Lib.hid fun o1 o2 o3 => Buffer_ReadRune _ (((h.bw.buf.alloc o1).alloc o2).alloc o3) (by rw [h.bw.reads]; exact hb) (hTo o1 o2 o3)
  rw [h.bw.reads] at HL
  have HZ := Lib.hid (dec_size s.text hb)
  clear hEo hTo hUo hV
  have H := Lib.hid h
  clear h
  unfold OpV.val
  go_enter Tryd.func29, Tryd.ntmps29
  go_wp2_with fail
  refine (HL.out _ _ _).mono ?_
  rintro e w2 ⟨r, q, rfl, HR, hB2, hf2⟩
  obtain ⟨k1, k2⟩ := two_facts hf2 (by simp; omega)
  have k1c0 : w2.cell? ⟨w.heap.size + 1, 0, none⟩ = some (.string ⟨#[]⟩) := k1.cell 0
  have k1f0 := k1.frozen 0
  have k1c1 : w2.cell? ⟨w.heap.size + 1, 1, none⟩ = some (.int .i64 0) := k1.cell 1
  have k1f1 := k1.frozen 1
  have k1c2 : w2.cell? ⟨w.heap.size + 1, 2, none⟩ = some (.int .i32 0) := k1.cell 2
  have k1f2 := k1.frozen 2
  have k1c3 : w2.cell? ⟨w.heap.size + 1, 3, none⟩ = some (.string ⟨#[]⟩) := k1.cell 3
  have k1f3 := k1.frozen 3
  have k2c0 : w2.cell? ⟨w.heap.size + 1 + 1, 0, none⟩ = some (.string ⟨#[]⟩) := k2.cell 0
  have k2f0 := k2.frozen 0
  have k2c1 : w2.cell? ⟨w.heap.size + 1 + 1, 1, none⟩ = some (.int .i64 0) := k2.cell 1
  have k2f1 := k2.frozen 1
  have k2c2 : w2.cell? ⟨w.heap.size + 1 + 1, 2, none⟩ = some (.int .i32 0) := k2.cell 2
  have k2f2 := k2.frozen 2
  have k2c3 : w2.cell? ⟨w.heap.size + 1 + 1, 3, none⟩ = some (.string ⟨#[]⟩) := k2.cell 3
  have k2f3 := k2.frozen 3
  clear k1 k2
  have hf12 : Fr (b :: g.toList) w w2 := fr_three hf2 (by simp)
  have hq : q = (dec s.text).2 := congrArg Prod.snd HR.out
  have hr : r = (dec s.text).1 := congrArg Prod.fst HR.out
  have hS2 : Scr W w2 b (s.rd q 2) g row len (off + q) (q : Int) := by
    have hz := HZ.out
    have hol := H.out.bw.buf.off_le
    refine ⟨H.out.bw.same hB2 ?_, RecOk.rd2 s row len off q H.out.bw.reads (by omega) (by omega) (by omega) (by omega)⟩
    rw [rd_text, show unread row len (off + q) = (unread row len off).drop q by simp [unread, List.drop_drop], H.out.bw.reads]
  have HS2 := Lib.hid hS2
  rw [← hq, ← hr] at HM
  clear hB2 hS2 hq hr
  go_wp2_with fail
  refine (told_nil _).mono ?_
  rintro e w3 ⟨rfl, rfl⟩
  go_wp2_with fail
  refine bodyPost_ret (v := .agg #[.string ⟨#[]⟩, .int .i64 (q : Int), .int .i32 (r : Int), .string ⟨#[]⟩]) (by simp [results, Tryd.results29, go_sem, k1c0, k1c1, k1c2, k1c3]) rfl ?_
  have hfs : ∀ w3, Fr [w.heap.size + 1, w.heap.size + 1 + 1] w2 w3 → CallPost W b s _ g len w (.returned (.agg #[.string ⟨#[]⟩, .int .i64 (q : Int), .int .i32 (r : Int), .string ⟨#[]⟩])) w3 := fun w3 hf3 =>
    (callPost_known (st := ⟨[], (q : Int), (r : Int), []⟩) HM.out (hf12.trans_of hf3 (by simp; omega)) (HS2.out.fr hf3 (by simp; omega) (fun x e => by have := hgl x e; simp; omega)) (by show len ≤ len + text.length + 4; omega) :)
  exact hfs _ (by repeat (first | refine Fr.setCell ?_ (.inl (by simp)) _ | exact Fr.refl _ _))

set_option maxHeartbeats 4000000 in
set_option maxRecDepth 100000 in
theorem call_unreadbyte_no (hk : o.kind = k_unreadbyte) (a c : Addr) (hV : Env W w a c) (hb : lr = 0) : Calls Tryd.prog 29 #[.pointer (some ⟨b, 0, none⟩), o.val] w (CallPost W b s o g len w) := by
  obtain ⟨kind, text, size, n, char⟩ := o
  simp only at hk
  subst hk
  have HM := Lib.hid (callM_unreadbyte s ⟨k_unreadbyte, text, size, n, char⟩ rfl)
  try simp only at HM
  try simp only at hb
  have hbl : b < w.heap.size := h.bw.buf.blk.lt
  have hgl : ∀ x, g = some x → x < w.heap.size := fun x e => (h.bw.buf.some_ x e).2.lt
  have hcap := h.bw.buf.cap_le
  have hlen := h.bw.buf.len_le
  have hlo := h.bw.len_
  have hlr4 := h.rec_.le4
  have hlow := hV.low
  have hWb := h.bw.b_
  have hEo := fun o1 o2 o3 => hV.eof.fr_old ((((Fr.refl [] w).alloc o1).alloc o2).alloc o3) (by simp)
  have hTo := fun o1 o2 o3 => hV.tabs.fr_old ((((Fr.refl [] w).alloc o1).alloc o2).alloc o3) (by simp)
  have hUo := fun o1 o2 o3 => hV.unr.fr_old ((((Fr.refl [] w).alloc o1).alloc o2).alloc o3) (by simp)
  have HV := Lib.hid hV
  have HL := Lib.hid fun o1 o2 o3 => Buffer_UnreadByte_no _ (((h.bw.buf.alloc o1).alloc o2).alloc o3) hb c (hUo o1 o2 o3)
  clear hEo hTo hUo hV
  have H := Lib.hid h
  clear h
  unfold OpV.val
  go_enter Tryd.func29, Tryd.ntmps29
  go_wp2_with fail
  refine (HL.out _ _ _).mono ?_
  rintro e w2 ⟨rfl, hw⟩
  have hf2 := Fr.of_eq hw
  obtain ⟨k1, k2⟩ := two_facts hf2 (by simp)
  have k1c0 : w2.cell? ⟨w.heap.size + 1, 0, none⟩ = some (.string ⟨#[]⟩) := k1.cell 0
  have k1f0 := k1.frozen 0
  have k1c1 : w2.cell? ⟨w.heap.size + 1, 1, none⟩ = some (.int .i64 0) := k1.cell 1
  have k1f1 := k1.frozen 1
  have k1c2 : w2.cell? ⟨w.heap.size + 1, 2, none⟩ = some (.int .i32 0) := k1.cell 2
  have k1f2 := k1.frozen 2
  have k1c3 : w2.cell? ⟨w.heap.size + 1, 3, none⟩ = some (.string ⟨#[]⟩) := k1.cell 3
  have k1f3 := k1.frozen 3
  have k2c0 : w2.cell? ⟨w.heap.size + 1 + 1, 0, none⟩ = some (.string ⟨#[]⟩) := k2.cell 0
  have k2f0 := k2.frozen 0
  have k2c1 : w2.cell? ⟨w.heap.size + 1 + 1, 1, none⟩ = some (.int .i64 0) := k2.cell 1
  have k2f1 := k2.frozen 1
  have k2c2 : w2.cell? ⟨w.heap.size + 1 + 1, 2, none⟩ = some (.int .i32 0) := k2.cell 2
  have k2f2 := k2.frozen 2
  have k2c3 : w2.cell? ⟨w.heap.size + 1 + 1, 3, none⟩ = some (.string ⟨#[]⟩) := k2.cell 3
  have k2f3 := k2.frozen 3
  clear k1 k2
  have hf12 : Fr (b :: g.toList) w w2 := fr_three hf2 (by simp)
  have hV2 : Env W w2 a c := HV.out.fr (fr_three (T := []) hf2 (by simp)) (by simp)
  have hS2 : Scr W w2 b s g row len off lr := (((H.out.alloc _).alloc _).alloc _).fr hf2 (by simp) (by simp)
  have HS2 := Lib.hid hS2
  have HT := Lib.hid (told_other w2 a c hV2.eof hV2.ne hV2.bc hV2.ba)
  have HB := Lib.hid hb
  clear hS2 hw hV2 hb
  go_wp2_with fail
  refine HT.out.mono ?_
  rintro e w3 ⟨rfl, rfl⟩
  go_wp2_with fail
  refine bodyPost_ret (v := .agg #[.string ⟨#[]⟩, .int .i64 0, .int .i32 0, .string ⟨#[101, 114, 114, 111, 114]⟩]) (by simp [results, Tryd.results29, go_sem, k1c0, k1c1, k1c2, k1c3]) rfl ?_
  have hfs : ∀ w3, Fr [w.heap.size + 1, w.heap.size + 1 + 1] w2 w3 → CallPost W b s _ g len w (.returned (.agg #[.string ⟨#[]⟩, .int .i64 0, .int .i32 0, .string ⟨#[101, 114, 114, 111, 114]⟩])) w3 := fun w3 hf3 => by
    have hscr := HS2.out.fr hf3 (by simp; omega) (fun x e => by have := hgl x e; simp; omega)
    by_cases hr : s.recent = 3 ∨ s.recent = 4
    · have hm := HM.out
      rw [if_neg (by omega), if_neg (by omega), if_pos hr] at hm
      exact callPost_known (st := est e_error) hm (hf12.trans_of hf3 (by simp; omega)) hscr (by show len ≤ len + text.length + 4; omega)
    · have hrk := H.out.rec_
      have hne1 : s.recent ≠ 1 := fun e => by have := (hrk.1 e).1; have := HB.out; omega
      have hne2 : s.recent ≠ 2 := fun e => by have := (hrk.2.1 e); have := HB.out; omega
      have hm := HM.out
      rw [if_neg hne1, if_neg hne2, if_neg hr] at hm
      exact callPost_free (est e_error) (by rw [hm]) (hf12.trans_of hf3 (by simp; omega)) hscr (by show len ≤ len + text.length + 4; omega)
  exact hfs _ (by repeat (first | refine Fr.setCell ?_ (.inl (by simp)) _ | exact Fr.refl _ _))

set_option maxHeartbeats 4000000 in
set_option maxRecDepth 100000 in
theorem call_unreadbyte_yes (hk : o.kind = k_unreadbyte) (hb : lr ≠ 0) : Calls Tryd.prog 29 #[.pointer (some ⟨b, 0, none⟩), o.val] w (CallPost W b s o g len w) := by
  obtain ⟨kind, text, size, n, char⟩ := o
  simp only at hk
  subst hk
  have HM := Lib.hid (callM_unreadbyte s ⟨k_unreadbyte, text, size, n, char⟩ rfl)
  try simp only at HM
  try simp only at hb
  have hbl : b < w.heap.size := h.bw.buf.blk.lt
  have hgl : ∀ x, g = some x → x < w.heap.size := fun x e => (h.bw.buf.some_ x e).2.lt
  have hcap := h.bw.buf.cap_le
  have hlen := h.bw.buf.len_le
  have hlo := h.bw.len_
  have hlr4 := h.rec_.le4
  have HL := Lib.hid fun o1 o2 o3 => Buffer_UnreadByte_yes _ (((h.bw.buf.alloc o1).alloc o2).alloc o3) hb
  have H := Lib.hid h
  clear h
  unfold OpV.val
  go_enter Tryd.func29, Tryd.ntmps29
  go_wp2_with fail
  refine (HL.out _ _ _).mono ?_
  rintro e w2 ⟨rfl, hB2, hf2⟩
  obtain ⟨k1, k2⟩ := two_facts hf2 (by simp; omega)
  have k1c0 : w2.cell? ⟨w.heap.size + 1, 0, none⟩ = some (.string ⟨#[]⟩) := k1.cell 0
  have k1f0 := k1.frozen 0
  have k1c1 : w2.cell? ⟨w.heap.size + 1, 1, none⟩ = some (.int .i64 0) := k1.cell 1
  have k1f1 := k1.frozen 1
  have k1c2 : w2.cell? ⟨w.heap.size + 1, 2, none⟩ = some (.int .i32 0) := k1.cell 2
  have k1f2 := k1.frozen 2
  have k1c3 : w2.cell? ⟨w.heap.size + 1, 3, none⟩ = some (.string ⟨#[]⟩) := k1.cell 3
  have k1f3 := k1.frozen 3
  have k2c0 : w2.cell? ⟨w.heap.size + 1 + 1, 0, none⟩ = some (.string ⟨#[]⟩) := k2.cell 0
  have k2f0 := k2.frozen 0
  have k2c1 : w2.cell? ⟨w.heap.size + 1 + 1, 1, none⟩ = some (.int .i64 0) := k2.cell 1
  have k2f1 := k2.frozen 1
  have k2c2 : w2.cell? ⟨w.heap.size + 1 + 1, 2, none⟩ = some (.int .i32 0) := k2.cell 2
  have k2f2 := k2.frozen 2
  have k2c3 : w2.cell? ⟨w.heap.size + 1 + 1, 3, none⟩ = some (.string ⟨#[]⟩) := k2.cell 3
  have k2f3 := k2.frozen 3
  clear k1 k2
  have hf12 : Fr (b :: g.toList) w w2 := fr_three hf2 (by simp)
  have HB := Lib.hid hb
  have HB2 := Lib.hid hB2
  clear hb hB2
  go_wp2_with fail
  refine (told_nil _).mono ?_
  rintro e w3 ⟨rfl, rfl⟩
  go_wp2_with fail
  refine bodyPost_ret (v := .agg #[.string ⟨#[]⟩, .int .i64 0, .int .i32 0, .string ⟨#[]⟩]) (by simp [results, Tryd.results29, go_sem, k1c0, k1c1, k1c2, k1c3]) rfl ?_
  have hfs : ∀ w3, Fr [w.heap.size + 1, w.heap.size + 1 + 1] w2 w3 → CallPost W b s _ g len w (.returned (.agg #[.string ⟨#[]⟩, .int .i64 0, .int .i32 0, .string ⟨#[]⟩])) w3 := fun w3 hf3 => by
    have hrk := H.out.rec_
    have hol := H.out.bw.buf.off_le
    have hf4 := hf12.trans_of hf3 (by simp; omega)
    have hscr : ∀ t, unread row len (off - 1) = t → Scr W w3 b (s.oth t) g row len (off - 1) 0 := fun t ht => Scr.fr ⟨H.out.bw.same HB2.out ht, RecOk.oth _ _ _ _ _⟩ hf3 (by simp; omega) (fun x e => by have := hgl x e; simp; omega)
    have hm := HM.out
    by_cases h1 : s.recent = 1
    · rw [if_pos h1] at hm
      obtain ⟨_, hl1, pre, hp⟩ := hrk.1 h1
      exact callPost_known (st := zst) hm hf4 (hscr _ (by rw [← H.out.bw.reads]; exact unread_back row len off 1 s.last pre hp hl1 hol H.out.bw.buf.len_le)) (by show len ≤ len + text.length + 4; omega)
    by_cases h2 : s.recent = 2
    · rw [if_neg h1, if_pos h2] at hm
      obtain ⟨_, hl1, hl4, pre, hp⟩ := hrk.2.1 h2
      refine callPost_known (st := zst) hm hf4 (hscr _ ?_) (by show len ≤ len + text.length + 4; omega)
      rw [← H.out.bw.reads]
      exact unread_back row len off 1 (s.last.drop (s.last.length - 1)) (pre ++ s.last.take (s.last.length - 1)) (by rw [hp, List.append_assoc, List.take_append_drop]) (by rw [List.length_drop]; omega) hol H.out.bw.buf.len_le
    · have h3 : ¬ (s.recent = 3 ∨ s.recent = 4) := fun e => HB.out (hrk.2.2.1 e)
      rw [if_neg h1, if_neg h2, if_neg h3] at hm
      exact callPost_free zst (by rw [hm]) hf4 (hscr _ rfl) (by show len ≤ len + text.length + 4; omega)
  exact hfs _ (by repeat (first | refine Fr.setCell ?_ (.inl (by simp)) _ | exact Fr.refl _ _))

set_option maxHeartbeats 4000000 in
set_option maxRecDepth 100000 in
theorem call_unreadrune_no (hk : o.kind = k_unreadrune) (a c : Addr) (hV : Env W w a c) (hb : lr ≤ 0) : Calls Tryd.prog 29 #[.pointer (some ⟨b, 0, none⟩), o.val] w (CallPost W b s o g len w) := by
  obtain ⟨kind, text, size, n, char⟩ := o
  simp only at hk
  subst hk
  have HM := Lib.hid (callM_unreadrune s ⟨k_unreadrune, text, size, n, char⟩ rfl)
  try simp only at HM
  try simp only at hb
  have hbl : b < w.heap.size := h.bw.buf.blk.lt
  have hgl : ∀ x, g = some x → x < w.heap.size := fun x e => (h.bw.buf.some_ x e).2.lt
  have hcap := h.bw.buf.cap_le
  have hlen := h.bw.buf.len_le
  have hlo := h.bw.len_
  have hlr4 := h.rec_.le4
  have hlow := hV.low
  have hWb := h.bw.b_
  have hEo := fun o1 o2 o3 => hV.eof.fr_old ((((Fr.refl [] w).alloc o1).alloc o2).alloc o3) (by simp)
  have hTo := fun o1 o2 o3 => hV.tabs.fr_old ((((Fr.refl [] w).alloc o1).alloc o2).alloc o3) (by simp)
  have hUo := fun o1 o2 o3 => hV.unr.fr_old ((((Fr.refl [] w).alloc o1).alloc o2).alloc o3) (by simp)
  have HV := Lib.hid hV
  have HL := Lib.hid fun o1 o2 o3 => Buffer_UnreadRune_no _ (((h.bw.buf.alloc o1).alloc o2).alloc o3) hb
  clear hEo hTo hUo hV
  have H := Lib.hid h
  clear h
  unfold OpV.val
  go_enter Tryd.func29, Tryd.ntmps29
  go_wp2_with fail
  refine (HL.out _ _ _).mono ?_
  rintro e w2 ⟨d, cs, dt, rfl, hd, hdb, hf2⟩
  obtain ⟨k1, k2⟩ := two_facts hf2 (by simp)
  have k1c0 : w2.cell? ⟨w.heap.size + 1, 0, none⟩ = some (.string ⟨#[]⟩) := k1.cell 0
  have k1f0 := k1.frozen 0
  have k1c1 : w2.cell? ⟨w.heap.size + 1, 1, none⟩ = some (.int .i64 0) := k1.cell 1
  have k1f1 := k1.frozen 1
  have k1c2 : w2.cell? ⟨w.heap.size + 1, 2, none⟩ = some (.int .i32 0) := k1.cell 2
  have k1f2 := k1.frozen 2
  have k1c3 : w2.cell? ⟨w.heap.size + 1, 3, none⟩ = some (.string ⟨#[]⟩) := k1.cell 3
  have k1f3 := k1.frozen 3
  have k2c0 : w2.cell? ⟨w.heap.size + 1 + 1, 0, none⟩ = some (.string ⟨#[]⟩) := k2.cell 0
  have k2f0 := k2.frozen 0
  have k2c1 : w2.cell? ⟨w.heap.size + 1 + 1, 1, none⟩ = some (.int .i64 0) := k2.cell 1
  have k2f1 := k2.frozen 1
  have k2c2 : w2.cell? ⟨w.heap.size + 1 + 1, 2, none⟩ = some (.int .i32 0) := k2.cell 2
  have k2f2 := k2.frozen 2
  have k2c3 : w2.cell? ⟨w.heap.size + 1 + 1, 3, none⟩ = some (.string ⟨#[]⟩) := k2.cell 3
  have k2f3 := k2.frozen 3
  clear k1 k2
  have hf12 : Fr (b :: g.toList) w w2 := fr_three hf2 (by simp)
  have hV2 : Env W w2 a c := HV.out.fr (fr_three (T := []) hf2 (by simp)) (by simp)
  have hS2 : Scr W w2 b s g row len off lr := (((H.out.alloc _).alloc _).alloc _).fr hf2 (by simp) (by simp)
  have HS2 := Lib.hid hS2
  have HT := Lib.hid (told_other w2 a d hV2.eof (fun e => by simp at hd; rw [e] at hd; omega) ⟨cs, dt, hdb⟩ hV2.ba)
  have HB := Lib.hid hb
  clear hS2 hV2 hb hd hdb
  go_wp2_with fail
  refine HT.out.mono ?_
  rintro e w3 ⟨rfl, rfl⟩
  go_wp2_with fail
  refine bodyPost_ret (v := .agg #[.string ⟨#[]⟩, .int .i64 0, .int .i32 0, .string ⟨#[101, 114, 114, 111, 114]⟩]) (by simp [results, Tryd.results29, go_sem, k1c0, k1c1, k1c2, k1c3]) rfl ?_
  have hfs : ∀ w3, Fr [w.heap.size + 1, w.heap.size + 1 + 1] w2 w3 → CallPost W b s _ g len w (.returned (.agg #[.string ⟨#[]⟩, .int .i64 0, .int .i32 0, .string ⟨#[101, 114, 114, 111, 114]⟩])) w3 := fun w3 hf3 => by
    have hscr := HS2.out.fr hf3 (by simp; omega) (fun x e => by have := hgl x e; simp; omega)
    have hrk := H.out.rec_
    have hne2 : s.recent ≠ 2 := fun e => by have := (hrk.2.1 e); have := HB.out; omega
    have hm := HM.out
    by_cases hr : s.recent = 6 ∨ s.recent = 0
    · rw [if_neg hne2, if_pos hr] at hm
      exact callPost_free (est e_error) (by rw [hm]) (hf12.trans_of hf3 (by simp; omega)) hscr (by show len ≤ len + text.length + 4; omega)
    · rw [if_neg hne2, if_neg hr] at hm
      exact callPost_known (st := est e_error) hm (hf12.trans_of hf3 (by simp; omega)) hscr (by show len ≤ len + text.length + 4; omega)
  exact hfs _ (by repeat (first | refine Fr.setCell ?_ (.inl (by simp)) _ | exact Fr.refl _ _))

set_option maxHeartbeats 4000000 in
set_option maxRecDepth 100000 in
theorem call_unreadrune_yes (hk : o.kind = k_unreadrune) (q : Nat) (hq : lr = (q : Int)) (h1 : 1 ≤ q) (h4 : q ≤ 4) : Calls Tryd.prog 29 #[.pointer (some ⟨b, 0, none⟩), o.val] w (CallPost W b s o g len w) := by
  obtain ⟨kind, text, size, n, char⟩ := o
  simp only at hk
  subst hk
  have HM := Lib.hid (callM_unreadrune s ⟨k_unreadrune, text, size, n, char⟩ rfl)
  try simp only at HM
  have hbl : b < w.heap.size := h.bw.buf.blk.lt
  have hgl : ∀ x, g = some x → x < w.heap.size := fun x e => (h.bw.buf.some_ x e).2.lt
  have hcap := h.bw.buf.cap_le
  have hlen := h.bw.buf.len_le
  have hlo := h.bw.len_
  have hlr4 := h.rec_.le4
  have HL := Lib.hid fun o1 o2 o3 => Buffer_UnreadRune_yes _ (((h.bw.buf.alloc o1).alloc o2).alloc o3) q hq h1 h4
  have H := Lib.hid h
  clear h
  unfold OpV.val
  go_enter Tryd.func29, Tryd.ntmps29
  go_wp2_with fail
  refine (HL.out _ _ _).mono ?_
  rintro e w2 ⟨off', rfl, hB2, HO, hf2⟩
  obtain ⟨k1, k2⟩ := two_facts hf2 (by simp; omega)
  have k1c0 : w2.cell? ⟨w.heap.size + 1, 0, none⟩ = some (.string ⟨#[]⟩) := k1.cell 0
  have k1f0 := k1.frozen 0
  have k1c1 : w2.cell? ⟨w.heap.size + 1, 1, none⟩ = some (.int .i64 0) := k1.cell 1
  have k1f1 := k1.frozen 1
  have k1c2 : w2.cell? ⟨w.heap.size + 1, 2, none⟩ = some (.int .i32 0) := k1.cell 2
  have k1f2 := k1.frozen 2
  have k1c3 : w2.cell? ⟨w.heap.size + 1, 3, none⟩ = some (.string ⟨#[]⟩) := k1.cell 3
  have k1f3 := k1.frozen 3
  have k2c0 : w2.cell? ⟨w.heap.size + 1 + 1, 0, none⟩ = some (.string ⟨#[]⟩) := k2.cell 0
  have k2f0 := k2.frozen 0
  have k2c1 : w2.cell? ⟨w.heap.size + 1 + 1, 1, none⟩ = some (.int .i64 0) := k2.cell 1
  have k2f1 := k2.frozen 1
  have k2c2 : w2.cell? ⟨w.heap.size + 1 + 1, 2, none⟩ = some (.int .i32 0) := k2.cell 2
  have k2f2 := k2.frozen 2
  have k2c3 : w2.cell? ⟨w.heap.size + 1 + 1, 3, none⟩ = some (.string ⟨#[]⟩) := k2.cell 3
  have k2f3 := k2.frozen 3
  clear k1 k2
  have hf12 : Fr (b :: g.toList) w w2 := fr_three hf2 (by simp)
  have HQ := Lib.hid hq
  have HB2 := Lib.hid hB2
  clear hq hB2
  go_wp2_with fail
  refine (told_nil _).mono ?_
  rintro e w3 ⟨rfl, rfl⟩
  go_wp2_with fail
  refine bodyPost_ret (v := .agg #[.string ⟨#[]⟩, .int .i64 0, .int .i32 0, .string ⟨#[]⟩]) (by simp [results, Tryd.results29, go_sem, k1c0, k1c1, k1c2, k1c3]) rfl ?_
  have hfs : ∀ w3, Fr [w.heap.size + 1, w.heap.size + 1 + 1] w2 w3 → CallPost W b s _ g len w (.returned (.agg #[.string ⟨#[]⟩, .int .i64 0, .int .i32 0, .string ⟨#[]⟩])) w3 := fun w3 hf3 => by
    have hrk := H.out.rec_
    have hol := H.out.bw.buf.off_le
    have hf4 := hf12.trans_of hf3 (by simp; omega)
    have hscr : ∀ t, unread row len off' = t → Scr W w3 b (s.oth t) g row len off' 0 := fun t ht => Scr.fr ⟨H.out.bw.same HB2.out ht, RecOk.oth _ _ _ _ _⟩ hf3 (by simp; omega) (fun x e => by have := hgl x e; simp; omega)
    have hm := HM.out
    by_cases h2 : s.recent = 2
    · rw [if_pos h2] at hm
      obtain ⟨hle, hl1, hl4, pre, hp⟩ := hrk.2.1 h2
      have hq2 : q = s.last.length := by have := HQ.out; omega
      have hoff : s.last.length ≤ off := by
        have := congrArg List.length hp
        simp only [List.length_take, List.length_append] at this
        omega
      refine callPost_known (st := zst) hm hf4 (hscr _ ?_) (by show len ≤ len + text.length + 4; omega)
      rw [HO.out, if_pos (by omega), hq2, ← H.out.bw.reads]
      exact unread_back row len off _ s.last pre hp rfl hol H.out.bw.buf.len_le
    by_cases h6 : s.recent = 6 ∨ s.recent = 0
    · rw [if_neg h2, if_pos h6] at hm
      exact callPost_free zst (by rw [hm]) hf4 (hscr _ rfl) (by show len ≤ len + text.length + 4; omega)
    · exfalso
      have h7 := hrk.2.2.2.2.1
      have hq0 := HQ.out
      by_cases e1 : s.recent = 1
      · have := (hrk.1 e1).1; omega
      by_cases e5 : s.recent = 5
      · have := hrk.2.2.2.1 e5; omega
      · have := hrk.2.2.1 (by omega); omega
  exact hfs _ (by repeat (first | refine Fr.setCell ?_ (.inl (by simp)) _ | exact Fr.refl _ _))

end
end Go.Proofs.YtgjaeggpaomoaaaDoor
