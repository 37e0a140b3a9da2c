/- A script's calls on a buffer (first part). -/
import Derived.Test.YtgjaeggpaomoaaaDoorTold
import Derived.Test.YtgjaeggpaomoaaaDoorBufRune
import Derived.Test.YtgjaeggpaomoaaaDoorBufGrow
import Derived.Test.YtgjaeggpaomoaaaDoorGrowL
import Derived.Test.YtgjaeggpaomoaaaDoorTrunc
import Derived.Test.YtgjaeggpaomoaaaDoorLawZ
namespace Go.Proofs.YtgjaeggpaomoaaaDoor
open Go.RowKit
set_option linter.unusedVariables false
set_option linter.unusedSectionVars false
attribute [local go_sem ↓] Go.wp_at_zero Go.wp_at_succ

theorem Scr.fr {W : Nat} {wr w' : World} {b : Nat} {s : Sta} {g : Option Nat} {row : List UInt8} {len off : Nat} {lr : Int} {S : List Nat} (h : Scr W wr b s g row len off lr) (hf : Fr S wr w') (hb : b ∉ S) (hg : ∀ x, g = some x → x ∉ S) : Scr W w' b s g row len off lr :=
  ⟨⟨h.bw.buf.fr hf hb hg, h.bw.reads, h.bw.new_, h.bw.b_⟩, h.rec_⟩
theorem Scr.alloc {W : Nat} {wr : World} {b : Nat} {s : Sta} {g : Option Nat} {row : List UInt8} {len off : Nat} {lr : Int} (h : Scr W wr b s g row len off lr) (o : Obj) : Scr W (wr.alloc o) b s g row len off lr := ⟨h.bw.alloc o, h.rec_⟩
theorem Scr.drewN {W : Nat} {wr : World} {b : Nat} {s : Sta} {g : Option Nat} {row : List UInt8} {len off : Nat} {lr : Int} (h : Scr W wr b s g row len off lr) (k : Nat) : Scr W (wr.drewN k) b s g row len off lr := ⟨h.bw.drewN k, h.rec_⟩

theorem two_facts {w w2 : World} {S : List Nat} {o1 : Obj} (hf : Fr S (((w.alloc o1).alloc (.cells #[.string ⟨#[]⟩, .int .i64 0, .int .i32 0, .string ⟨#[]⟩] 36)).alloc (.cells #[.string ⟨#[]⟩, .int .i64 0, .int .i32 0, .string ⟨#[]⟩] 36)) w2) (hS : ∀ i ∈ S, i < w.heap.size) :
    Blk w2 (w.heap.size + 1) 36 #[.string ⟨#[]⟩, .int .i64 0, .int .i32 0, .string ⟨#[]⟩] ∧ Blk w2 (w.heap.size + 1 + 1) 36 #[.string ⟨#[]⟩, .int .i64 0, .int .i32 0, .string ⟨#[]⟩] := by
  have h1 := ((Blk.new (w.alloc o1) 36 #[.string ⟨#[]⟩, .int .i64 0, .int .i32 0, .string ⟨#[]⟩]).alloc (.cells #[.string ⟨#[]⟩, .int .i64 0, .int .i32 0, .string ⟨#[]⟩] 36)).fr hf (fun hs => by have := hS _ hs; simp at this; omega)
  have h2 := (Blk.new ((w.alloc o1).alloc (.cells #[.string ⟨#[]⟩, .int .i64 0, .int .i32 0, .string ⟨#[]⟩] 36)) 36 #[.string ⟨#[]⟩, .int .i64 0, .int .i32 0, .string ⟨#[]⟩]).fr hf (fun hs => by have := hS _ hs; simp at this; omega)
  exact ⟨by simpa using h1, by simpa using h2⟩
theorem Fr.of_drew {w w' : World} {k : Nat} (h : w' = w.drewN k) : Fr [] w w' := by subst h; exact (Fr.refl [] w).drewN k
theorem Fr.of_eq {w w' : World} (h : w = w') : Fr [] w w' := by subst h; exact Fr.refl [] w
theorem fr_three {w w2 : World} {S T : List Nat} {o1 o2 o3 : Obj} (hf : Fr S (((w.alloc o1).alloc o2).alloc o3) w2) (hS : ∀ i ∈ S, i ∈ T ∨ w.heap.size ≤ i) : Fr T w w2 := ((((Fr.refl T w).alloc o1).alloc o2).alloc o3).trans_of hf hS
theorem callPost_known {W b : Nat} {s s' : Sta} {o : OpV} {g g' : Option Nat} {len len' off' : Nat} {row' : List UInt8} {lr' : Int} {w w' : World} {st : StV} (hM : callM s o = (s', st, true)) (hf : Fr (b :: g.toList) w w') (hS : Scr W w' b s' g' row' len' off' lr') (hl : len' ≤ len + o.text.length + 4) :
    CallPost W b s o g len w (.returned (.agg #[.string ⟨st.text.toArray⟩, .int .i64 st.n, .int .i32 st.char, .string ⟨st.err.toArray⟩])) w' :=
  ⟨st, rfl, Lib.hid (fun _ => by rw [hM]), hf, Lib.hid (.inr ⟨s', g', row', len', off', lr', hS, fun _ => by rw [hM], hl⟩)⟩
theorem callPost_panic {W b : Nat} {s : Sta} {o : OpV} {g : Option Nat} {len : Nat} {w w' : World} {s' : Sta} (hM : callM s o = (s', est e_panic, true)) (hf : Fr (b :: g.toList) w w') :
    CallPost W b s o g len w (.returned (.agg #[.string ⟨#[]⟩, .int .i64 0, .int .i32 0, .string ⟨#[112, 97, 110, 105, 99]⟩])) w' :=
  ⟨est e_panic, rfl, Lib.hid (fun _ => by rw [hM]), hf, Lib.hid (.inl rfl)⟩
theorem callPost_free {W b : Nat} {s s' : Sta} {o : OpV} {g g' : Option Nat} {len len' off' : Nat} {row' : List UInt8} {lr' : Int} {w w' : World} (st : StV) (hM : (callM s o).2.2 = false) (hf : Fr (b :: g.toList) w w') (hS : Scr W w' b s' g' row' len' off' lr') (hl : len' ≤ len + o.text.length + 4) :
    CallPost W b s o g len w (.returned (.agg #[.string ⟨st.text.toArray⟩, .int .i64 st.n, .int .i32 st.char, .string ⟨st.err.toArray⟩])) w' :=
  ⟨st, rfl, Lib.hid (fun h => by rw [hM] at h; cases h), hf, Lib.hid (.inr ⟨s', g', row', len', off', lr', hS, (fun h => by rw [hM] at h; cases h), hl⟩)⟩
theorem Bw.same {W : Nat} {w w2 : World} {b : Nat} {s t : List UInt8} {g : Option Nat} {row : List UInt8} {len off len2 off2 : Nat} {lr lr2 : Int} (h : Bw W w b s g row len off lr) (hB : Buf w2 b g row len2 off2 lr2) (hr : unread row len2 off2 = t) : Bw W w2 b t g row len2 off2 lr2 := ⟨hB, hr, h.new_, h.b_⟩
theorem wr_text (s : Sta) (d : List UInt8) : (s.wr d).text = s.text ++ d := by
  unfold Sta.wr
  split <;> rfl
theorem enc_len' (r : Int) : 1 ≤ (Lib.encodeRune r).length ∧ (Lib.encodeRune r).length ≤ 4 := by
  have := Lib.runeCells_le r
  rw [Lib.runeCells_length] at this
  exact this

section
variable {W b : Nat} {s : Sta} {g : Option Nat} {row : List UInt8} {len off : Nat} {lr : Int} (w : World) (h : Scr W w b s g row len off lr) (hWw : W ≤ w.heap.size) (o : OpV)
include h hWw

set_option maxHeartbeats 4000000 in
set_option maxRecDepth 100000 in
theorem call_reset (hk : o.kind = k_reset) : Calls Tryd.prog 29 #[.pointer (some ⟨b, 0, none⟩), o.val] w (CallPost W b s o g len w) := by
  obtain ⟨kind, text, size, n, char⟩ := o
  simp only at hk
  subst hk
  have HM := Lib.hid (callM_reset s ⟨k_reset, text, size, n, char⟩ rfl)
  try simp only at HM
  have hbl : b < w.heap.size := h.bw.buf.blk.lt
  have hgl : ∀ x, g = some x → x < w.heap.size := fun x e => (h.bw.buf.some_ x e).2.lt
  have hcap := h.bw.buf.cap_le
  have hlen := h.bw.buf.len_le
  have hlo := h.bw.len_
  have hlr4 := h.rec_.le4
  have HL := Lib.hid fun o1 o2 o3 => Buffer_Reset _ (((h.bw.buf.alloc o1).alloc o2).alloc o3)
  have H := Lib.hid h
  clear h
  unfold OpV.val
  go_enter Tryd.func29, Tryd.ntmps29
  go_wp2_with fail
  refine (HL.out _ _ _).mono ?_
  rintro e w2 ⟨rfl, hB2, hf2⟩
  obtain ⟨k1, k2⟩ := two_facts hf2 (by simp; omega)
  have k1c0 : w2.cell? ⟨w.heap.size + 1, 0, none⟩ = some (.string ⟨#[]⟩) := k1.cell 0
  have k1f0 := k1.frozen 0
  have k1c1 : w2.cell? ⟨w.heap.size + 1, 1, none⟩ = some (.int .i64 0) := k1.cell 1
  have k1f1 := k1.frozen 1
  have k1c2 : w2.cell? ⟨w.heap.size + 1, 2, none⟩ = some (.int .i32 0) := k1.cell 2
  have k1f2 := k1.frozen 2
  have k1c3 : w2.cell? ⟨w.heap.size + 1, 3, none⟩ = some (.string ⟨#[]⟩) := k1.cell 3
  have k1f3 := k1.frozen 3
  have k2c0 : w2.cell? ⟨w.heap.size + 1 + 1, 0, none⟩ = some (.string ⟨#[]⟩) := k2.cell 0
  have k2f0 := k2.frozen 0
  have k2c1 : w2.cell? ⟨w.heap.size + 1 + 1, 1, none⟩ = some (.int .i64 0) := k2.cell 1
  have k2f1 := k2.frozen 1
  have k2c2 : w2.cell? ⟨w.heap.size + 1 + 1, 2, none⟩ = some (.int .i32 0) := k2.cell 2
  have k2f2 := k2.frozen 2
  have k2c3 : w2.cell? ⟨w.heap.size + 1 + 1, 3, none⟩ = some (.string ⟨#[]⟩) := k2.cell 3
  have k2f3 := k2.frozen 3
  clear k1 k2
  have hf12 : Fr (b :: g.toList) w w2 := fr_three hf2 (by simp)
  have hS2 : Scr W w2 b (s.oth []) g row 0 0 0 := ⟨H.out.bw.same hB2 (by simp [unread]; rfl), RecOk.oth _ _ _ _ _⟩
  have HS2 := Lib.hid hS2
  clear hB2 hS2
  go_wp2_with fail
  refine bodyPost_ret (v := .agg #[.string ⟨#[]⟩, .int .i64 0, .int .i32 0, .string ⟨#[]⟩]) (by simp [results, Tryd.results29, go_sem, k1c0, k1c1, k1c2, k1c3]) rfl ?_
  have hfs : ∀ w3, Fr [w.heap.size + 1, w.heap.size + 1 + 1] w2 w3 → CallPost W b s _ g len w (.returned (.agg #[.string ⟨#[]⟩, .int .i64 0, .int .i32 0, .string ⟨#[]⟩])) w3 := fun w3 hf3 =>
    (callPost_known (st := ⟨[], 0, 0, []⟩) HM.out (hf12.trans_of hf3 (by simp; omega)) (HS2.out.fr hf3 (by simp; omega) (fun x e => by have := hgl x e; simp; omega)) (Nat.zero_le _) :)
  exact hfs _ (by repeat (first | refine Fr.setCell ?_ (.inl (by simp)) _ | exact Fr.refl _ _))

set_option maxHeartbeats 4000000 in
set_option maxRecDepth 100000 in
theorem call_len (hk : o.kind = k_len) : Calls Tryd.prog 29 #[.pointer (some ⟨b, 0, none⟩), o.val] w (CallPost W b s o g len w) := by
  obtain ⟨kind, text, size, n, char⟩ := o
  simp only at hk
  subst hk
  have HM := Lib.hid (callM_len s ⟨k_len, text, size, n, char⟩ rfl)
  try simp only at HM
  have hbl : b < w.heap.size := h.bw.buf.blk.lt
  have hgl : ∀ x, g = some x → x < w.heap.size := fun x e => (h.bw.buf.some_ x e).2.lt
  have hcap := h.bw.buf.cap_le
  have hlen := h.bw.buf.len_le
  have hlo := h.bw.len_
  have hlr4 := h.rec_.le4
  have HL := Lib.hid fun o1 o2 o3 => Buffer_Len _ (((h.bw.buf.alloc o1).alloc o2).alloc o3)
  rw [hlo] at HL
  have H := Lib.hid h
  clear h
  unfold OpV.val
  go_enter Tryd.func29, Tryd.ntmps29
  go_wp2_with fail
  refine (HL.out _ _ _).mono ?_
  rintro e w2 ⟨rfl, k, hw⟩
  have hf2 := Fr.of_drew hw
  obtain ⟨k1, k2⟩ := two_facts hf2 (by simp)
  have k1c0 : w2.cell? ⟨w.heap.size + 1, 0, none⟩ = some (.string ⟨#[]⟩) := k1.cell 0
  have k1f0 := k1.frozen 0
  have k1c1 : w2.cell? ⟨w.heap.size + 1, 1, none⟩ = some (.int .i64 0) := k1.cell 1
  have k1f1 := k1.frozen 1
  have k1c2 : w2.cell? ⟨w.heap.size + 1, 2, none⟩ = some (.int .i32 0) := k1.cell 2
  have k1f2 := k1.frozen 2
  have k1c3 : w2.cell? ⟨w.heap.size + 1, 3, none⟩ = some (.string ⟨#[]⟩) := k1.cell 3
  have k1f3 := k1.frozen 3
  have k2c0 : w2.cell? ⟨w.heap.size + 1 + 1, 0, none⟩ = some (.string ⟨#[]⟩) := k2.cell 0
  have k2f0 := k2.frozen 0
  have k2c1 : w2.cell? ⟨w.heap.size + 1 + 1, 1, none⟩ = some (.int .i64 0) := k2.cell 1
  have k2f1 := k2.frozen 1
  have k2c2 : w2.cell? ⟨w.heap.size + 1 + 1, 2, none⟩ = some (.int .i32 0) := k2.cell 2
  have k2f2 := k2.frozen 2
  have k2c3 : w2.cell? ⟨w.heap.size + 1 + 1, 3, none⟩ = some (.string ⟨#[]⟩) := k2.cell 3
  have k2f3 := k2.frozen 3
  clear k1 k2
  have hf12 : Fr (b :: g.toList) w w2 := fr_three hf2 (by simp)
  have hS2 : Scr W w2 b s g row len off lr := (((H.out.alloc _).alloc _).alloc _).fr hf2 (by simp) (by simp)
  have HS2 := Lib.hid hS2
  clear hS2 hw
  go_wp2_with fail
  refine bodyPost_ret (v := .agg #[.string ⟨#[]⟩, .int .i64 (s.text.length : Int), .int .i32 0, .string ⟨#[]⟩]) (by simp [results, Tryd.results29, go_sem, k1c0, k1c1, k1c2, k1c3]) rfl ?_
  have hfs : ∀ w3, Fr [w.heap.size + 1, w.heap.size + 1 + 1] w2 w3 → CallPost W b s _ g len w (.returned (.agg #[.string ⟨#[]⟩, .int .i64 (s.text.length : Int), .int .i32 0, .string ⟨#[]⟩])) w3 := fun w3 hf3 =>
    (callPost_known (st := ⟨[], (s.text.length : Int), 0, []⟩) HM.out (hf12.trans_of hf3 (by simp; omega)) (HS2.out.fr hf3 (by simp; omega) (fun x e => by have := hgl x e; simp; omega)) (by show len ≤ len + text.length + 4; omega) :)
  exact hfs _ (by repeat (first | refine Fr.setCell ?_ (.inl (by simp)) _ | exact Fr.refl _ _))

set_option maxHeartbeats 4000000 in
set_option maxRecDepth 100000 in
theorem call_string (hk : o.kind = k_string) : Calls Tryd.prog 29 #[.pointer (some ⟨b, 0, none⟩), o.val] w (CallPost W b s o g len w) := by
  obtain ⟨kind, text, size, n, char⟩ := o
  simp only at hk
  subst hk
  have HM := Lib.hid (callM_string s ⟨k_string, text, size, n, char⟩ rfl)
  try simp only at HM
  have hbl : b < w.heap.size := h.bw.buf.blk.lt
  have hgl : ∀ x, g = some x → x < w.heap.size := fun x e => (h.bw.buf.some_ x e).2.lt
  have hcap := h.bw.buf.cap_le
  have hlen := h.bw.buf.len_le
  have hlo := h.bw.len_
  have hlr4 := h.rec_.le4
  have HL := Lib.hid fun o1 o2 o3 => Buffer_String _ (((h.bw.buf.alloc o1).alloc o2).alloc o3)
  have H := Lib.hid h
  clear h
  unfold OpV.val
  go_enter Tryd.func29, Tryd.ntmps29
  go_wp2_with fail
  refine (HL.out _ _ _).mono ?_
  rintro e w2 ⟨t, rfl, HT, k, hw⟩
  have hf2 := Fr.of_drew hw
  obtain ⟨k1, k2⟩ := two_facts hf2 (by simp)
  have k1c0 : w2.cell? ⟨w.heap.size + 1, 0, none⟩ = some (.string ⟨#[]⟩) := k1.cell 0
  have k1f0 := k1.frozen 0
  have k1c1 : w2.cell? ⟨w.heap.size + 1, 1, none⟩ = some (.int .i64 0) := k1.cell 1
  have k1f1 := k1.frozen 1
  have k1c2 : w2.cell? ⟨w.heap.size + 1, 2, none⟩ = some (.int .i32 0) := k1.cell 2
  have k1f2 := k1.frozen 2
  have k1c3 : w2.cell? ⟨w.heap.size + 1, 3, none⟩ = some (.string ⟨#[]⟩) := k1.cell 3
  have k1f3 := k1.frozen 3
  have k2c0 : w2.cell? ⟨w.heap.size + 1 + 1, 0, none⟩ = some (.string ⟨#[]⟩) := k2.cell 0
  have k2f0 := k2.frozen 0
  have k2c1 : w2.cell? ⟨w.heap.size + 1 + 1, 1, none⟩ = some (.int .i64 0) := k2.cell 1
  have k2f1 := k2.frozen 1
  have k2c2 : w2.cell? ⟨w.heap.size + 1 + 1, 2, none⟩ = some (.int .i32 0) := k2.cell 2
  have k2f2 := k2.frozen 2
  have k2c3 : w2.cell? ⟨w.heap.size + 1 + 1, 3, none⟩ = some (.string ⟨#[]⟩) := k2.cell 3
  have k2f3 := k2.frozen 3
  clear k1 k2
  have hf12 : Fr (b :: g.toList) w w2 := fr_three hf2 (by simp)
  have hS2 : Scr W w2 b s g row len off lr := (((H.out.alloc _).alloc _).alloc _).fr hf2 (by simp) (by simp)
  have HS2 := Lib.hid hS2
  clear hS2 hw
  go_wp2_with fail
  obtain rfl : t = s.text := by rw [HT.out, H.out.bw.reads]
  refine bodyPost_ret (v := .agg #[.string ⟨s.text.toArray⟩, .int .i64 0, .int .i32 0, .string ⟨#[]⟩]) (by simp [results, Tryd.results29, go_sem, k1c0, k1c1, k1c2, k1c3]) rfl ?_
  have hfs : ∀ w3, Fr [w.heap.size + 1, w.heap.size + 1 + 1] w2 w3 → CallPost W b s _ g len w (.returned (.agg #[.string ⟨s.text.toArray⟩, .int .i64 0, .int .i32 0, .string ⟨#[]⟩])) w3 := fun w3 hf3 =>
    (callPost_known (st := ⟨s.text, 0, 0, []⟩) HM.out (hf12.trans_of hf3 (by simp; omega)) (HS2.out.fr hf3 (by simp; omega) (fun x e => by have := hgl x e; simp; omega)) (by show len ≤ len + text.length + 4; omega) :)
  exact hfs _ (by repeat (first | refine Fr.setCell ?_ (.inl (by simp)) _ | exact Fr.refl _ _))

set_option maxHeartbeats 4000000 in
set_option maxRecDepth 100000 in
theorem call_bytes (hk : o.kind = k_bytes) : Calls Tryd.prog 29 #[.pointer (some ⟨b, 0, none⟩), o.val] w (CallPost W b s o g len w) := by
  obtain ⟨kind, text, size, n, char⟩ := o
  simp only at hk
  subst hk
  have HM := Lib.hid (callM_bytes s ⟨k_bytes, text, size, n, char⟩ rfl)
  try simp only at HM
  have hbl : b < w.heap.size := h.bw.buf.blk.lt
  have hgl : ∀ x, g = some x → x < w.heap.size := fun x e => (h.bw.buf.some_ x e).2.lt
  have hcap := h.bw.buf.cap_le
  have hlen := h.bw.buf.len_le
  have hlo := h.bw.len_
  have hlr4 := h.rec_.le4
  have HL := Lib.hid fun o1 o2 o3 => Buffer_Bytes _ (((h.bw.buf.alloc o1).alloc o2).alloc o3)
  rw [h.bw.reads] at HL
  have H := Lib.hid h
  clear h
  unfold OpV.val
  go_enter Tryd.func29, Tryd.ntmps29
  go_wp2_with fail
  refine (HL.out _ _ _).mono ?_
  rintro e w2 ⟨A, m, c, rfl, hS, HA, k, hw⟩
  have hf2 := Fr.of_drew hw
  obtain ⟨k1, k2⟩ := two_facts hf2 (by simp)
  have k1c0 : w2.cell? ⟨w.heap.size + 1, 0, none⟩ = some (.string ⟨#[]⟩) := k1.cell 0
  have k1f0 := k1.frozen 0
  have k1c1 : w2.cell? ⟨w.heap.size + 1, 1, none⟩ = some (.int .i64 0) := k1.cell 1
  have k1f1 := k1.frozen 1
  have k1c2 : w2.cell? ⟨w.heap.size + 1, 2, none⟩ = some (.int .i32 0) := k1.cell 2
  have k1f2 := k1.frozen 2
  have k1c3 : w2.cell? ⟨w.heap.size + 1, 3, none⟩ = some (.string ⟨#[]⟩) := k1.cell 3
  have k1f3 := k1.frozen 3
  have k2c0 : w2.cell? ⟨w.heap.size + 1 + 1, 0, none⟩ = some (.string ⟨#[]⟩) := k2.cell 0
  have k2f0 := k2.frozen 0
  have k2c1 : w2.cell? ⟨w.heap.size + 1 + 1, 1, none⟩ = some (.int .i64 0) := k2.cell 1
  have k2f1 := k2.frozen 1
  have k2c2 : w2.cell? ⟨w.heap.size + 1 + 1, 2, none⟩ = some (.int .i32 0) := k2.cell 2
  have k2f2 := k2.frozen 2
  have k2c3 : w2.cell? ⟨w.heap.size + 1 + 1, 3, none⟩ = some (.string ⟨#[]⟩) := k2.cell 3
  have k2f3 := k2.frozen 3
  clear k1 k2
  have hf12 : Fr (b :: g.toList) w w2 := fr_three hf2 (by simp)
  have hS2 : Scr W w2 b s g row len off lr := (((H.out.alloc _).alloc _).alloc _).fr hf2 (by simp) (by simp)
  have HS2 := Lib.hid hS2
  clear hS2 hw
  have hst := run_string_sl (P := Tryd.prog) hS 22 9 5 c Tryd.underlying22 Tryd.underlying5 Tryd.underlying9
  clear hS
  go_wp2_with fail
  refine bodyPost_ret (v := .agg #[.string ⟨s.text.toArray⟩, .int .i64 0, .int .i32 0, .string ⟨#[]⟩]) (by simp [results, Tryd.results29, go_sem, k1c0, k1c1, k1c2, k1c3]) rfl ?_
  have hfs : ∀ w3, Fr [w.heap.size + 1, w.heap.size + 1 + 1] w2 w3 → CallPost W b s _ g len w (.returned (.agg #[.string ⟨s.text.toArray⟩, .int .i64 0, .int .i32 0, .string ⟨#[]⟩])) w3 := fun w3 hf3 =>
    (callPost_known (st := ⟨s.text, 0, 0, []⟩) HM.out (hf12.trans_of hf3 (by simp; omega)) (HS2.out.fr hf3 (by simp; omega) (fun x e => by have := hgl x e; simp; omega)) (by show len ≤ len + text.length + 4; omega) :)
  exact hfs _ (by repeat (first | refine Fr.setCell ?_ (.inl (by simp)) _ | exact Fr.refl _ _))

set_option maxHeartbeats 4000000 in
set_option maxRecDepth 100000 in
theorem call_next (hk : o.kind = k_next) (ho : o.Ok) : Calls Tryd.prog 29 #[.pointer (some ⟨b, 0, none⟩), o.val] w (CallPost W b s o g len w) := by
  obtain ⟨kind, text, size, n, char⟩ := o
  simp only at hk
  subst hk
  have HM := Lib.hid (callM_next s ⟨k_next, text, size, n, char⟩ rfl)
  try simp only at HM
  have hsz : size ≤ 65535 := ho.size
  have hc0 : -2147483648 ≤ char := ho.c0
  have hc1 : char ≤ 2147483647 := ho.c1
  clear ho
  have hbl : b < w.heap.size := h.bw.buf.blk.lt
  have hgl : ∀ x, g = some x → x < w.heap.size := fun x e => (h.bw.buf.some_ x e).2.lt
  have hcap := h.bw.buf.cap_le
  have hlen := h.bw.buf.len_le
  have hlo := h.bw.len_
  have hlr4 := h.rec_.le4
  have HL := Lib.hid fun o1 o2 o3 => Buffer_Next _ (((h.bw.buf.alloc o1).alloc o2).alloc o3) size
  rw [h.bw.reads, hlo] at HL
  have H := Lib.hid h
  clear h
  unfold OpV.val
  go_enter Tryd.func29, Tryd.ntmps29
  go_wp2_with fail
  refine (HL.out _ _ _).mono ?_
  rintro e w2 ⟨A, m, c, off', lr', rfl, hS, hB2, HA, hf2⟩
  have hst := run_string_sl (P := Tryd.prog) hS 22 9 5 c Tryd.underlying22 Tryd.underlying5 Tryd.underlying9
  clear hS
  obtain ⟨k1, k2⟩ := two_facts hf2 (by simp; omega)
  have k1c0 : w2.cell? ⟨w.heap.size + 1, 0, none⟩ = some (.string ⟨#[]⟩) := k1.cell 0
  have k1f0 := k1.frozen 0
  have k1c1 : w2.cell? ⟨w.heap.size + 1, 1, none⟩ = some (.int .i64 0) := k1.cell 1
  have k1f1 := k1.frozen 1
  have k1c2 : w2.cell? ⟨w.heap.size + 1, 2, none⟩ = some (.int .i32 0) := k1.cell 2
  have k1f2 := k1.frozen 2
  have k1c3 : w2.cell? ⟨w.heap.size + 1, 3, none⟩ = some (.string ⟨#[]⟩) := k1.cell 3
  have k1f3 := k1.frozen 3
  have k2c0 : w2.cell? ⟨w.heap.size + 1 + 1, 0, none⟩ = some (.string ⟨#[]⟩) := k2.cell 0
  have k2f0 := k2.frozen 0
  have k2c1 : w2.cell? ⟨w.heap.size + 1 + 1, 1, none⟩ = some (.int .i64 0) := k2.cell 1
  have k2f1 := k2.frozen 1
  have k2c2 : w2.cell? ⟨w.heap.size + 1 + 1, 2, none⟩ = some (.int .i32 0) := k2.cell 2
  have k2f2 := k2.frozen 2
  have k2c3 : w2.cell? ⟨w.heap.size + 1 + 1, 3, none⟩ = some (.string ⟨#[]⟩) := k2.cell 3
  have k2f3 := k2.frozen 3
  clear k1 k2
  have hf12 : Fr (b :: g.toList) w w2 := fr_three hf2 (by simp)
  have hS2 : Scr W w2 b (s.rd (min size s.text.length) 1) g row len off' lr' := by
    obtain ⟨e1, e2⟩ := HA.out
    have hol := H.out.bw.buf.off_le
    subst e1 e2
    refine ⟨H.out.bw.same hB2 ?_, RecOk.rd1 s row len off _ H.out.bw.reads (by omega) (by omega)⟩
    rw [rd_text, show unread row len (off + min size s.text.length) = (unread row len off).drop (min size s.text.length) by simp [unread, List.drop_drop], H.out.bw.reads]
  have HS2 := Lib.hid hS2
  clear hB2 hS2
  go_wp2_with fail
  refine bodyPost_ret (v := .agg #[.string ⟨(s.text.take size).toArray⟩, .int .i64 0, .int .i32 0, .string ⟨#[]⟩]) (by simp [results, Tryd.results29, go_sem, k1c0, k1c1, k1c2, k1c3]) rfl ?_
  have hfs : ∀ w3, Fr [w.heap.size + 1, w.heap.size + 1 + 1] w2 w3 → CallPost W b s _ g len w (.returned (.agg #[.string ⟨(s.text.take size).toArray⟩, .int .i64 0, .int .i32 0, .string ⟨#[]⟩])) w3 := fun w3 hf3 =>
    (callPost_known (st := ⟨s.text.take size, 0, 0, []⟩) HM.out (hf12.trans_of hf3 (by simp; omega)) (HS2.out.fr hf3 (by simp; omega) (fun x e => by have := hgl x e; simp; omega)) (by show len ≤ len + text.length + 4; omega) :)
  exact hfs _ (by repeat (first | refine Fr.setCell ?_ (.inl (by simp)) _ | exact Fr.refl _ _))

set_option maxHeartbeats 4000000 in
set_option maxRecDepth 100000 in
theorem call_writestring (hk : o.kind = k_writestring) (ho : o.Ok) (hlim : len + o.text.length + 4 ≤ 140737488355328) : Calls Tryd.prog 29 #[.pointer (some ⟨b, 0, none⟩), o.val] w (CallPost W b s o g len w) := by
  obtain ⟨kind, text, size, n, char⟩ := o
  simp only at hk
  subst hk
  have HM := Lib.hid (callM_writestring s ⟨k_writestring, text, size, n, char⟩ rfl)
  try simp only at HM
  have hsz : size ≤ 65535 := ho.size
  have hc0 : -2147483648 ≤ char := ho.c0
  have hc1 : char ≤ 2147483647 := ho.c1
  clear ho
  try simp only at hlim
  have hbl : b < w.heap.size := h.bw.buf.blk.lt
  have hgl : ∀ x, g = some x → x < w.heap.size := fun x e => (h.bw.buf.some_ x e).2.lt
  have hcap := h.bw.buf.cap_le
  have hlen := h.bw.buf.len_le
  have hlo := h.bw.len_
  have hlr4 := h.rec_.le4
  have HL := Lib.hid fun o1 o2 o3 => Buffer_WriteString _ (((h.bw.buf.alloc o1).alloc o2).alloc o3) text (by omega)
  have H := Lib.hid h
  clear h
  unfold OpV.val
  go_enter Tryd.func29, Tryd.ntmps29
  go_wp2_with fail
  refine (HL.out _ _ _).mono ?_
  rintro e w2 ⟨g', row', len', off', rfl, hp⟩
  have hf2 := hp.fr
  obtain ⟨k1, k2⟩ := two_facts hf2 (by simp only [List.mem_cons, Option.mem_toList]; rintro i (rfl | hi); exact hbl; exact hgl i hi)
  have k1c0 : w2.cell? ⟨w.heap.size + 1, 0, none⟩ = some (.string ⟨#[]⟩) := k1.cell 0
  have k1f0 := k1.frozen 0
  have k1c1 : w2.cell? ⟨w.heap.size + 1, 1, none⟩ = some (.int .i64 0) := k1.cell 1
  have k1f1 := k1.frozen 1
  have k1c2 : w2.cell? ⟨w.heap.size + 1, 2, none⟩ = some (.int .i32 0) := k1.cell 2
  have k1f2 := k1.frozen 2
  have k1c3 : w2.cell? ⟨w.heap.size + 1, 3, none⟩ = some (.string ⟨#[]⟩) := k1.cell 3
  have k1f3 := k1.frozen 3
  have k2c0 : w2.cell? ⟨w.heap.size + 1 + 1, 0, none⟩ = some (.string ⟨#[]⟩) := k2.cell 0
  have k2f0 := k2.frozen 0
  have k2c1 : w2.cell? ⟨w.heap.size + 1 + 1, 1, none⟩ = some (.int .i64 0) := k2.cell 1
  have k2f1 := k2.frozen 1
  have k2c2 : w2.cell? ⟨w.heap.size + 1 + 1, 2, none⟩ = some (.int .i32 0) := k2.cell 2
  have k2f2 := k2.frozen 2
  have k2c3 : w2.cell? ⟨w.heap.size + 1 + 1, 3, none⟩ = some (.string ⟨#[]⟩) := k2.cell 3
  have k2f3 := k2.frozen 3
  clear k1 k2
  have hf12 : Fr (b :: g.toList) w w2 := fr_three hf2 (fun i hi => .inl hi)
  have hgx : ∀ x, g' = some x → x ∉ [w.heap.size + 1, w.heap.size + 1 + 1] := fun x e => by
    rcases hp.at_ x e with h1 | h1
    · have := hgl x h1; simp; omega
    · simp at h1; simp; omega
  have hS2 : Scr W w2 b (s.wr text) g' row' len' off' 0 := by
    refine ⟨?_, RecOk.wr _ _ _ _⟩
    rw [wr_text]
    exact (((H.out.bw.alloc _).alloc _).alloc _).put (by simp; omega) hp
  have HS2 := Lib.hid hS2
  have hle : len' ≤ len + (text).length := hp.len_le
  have HLE := Lib.hid hle
  clear hp hS2 hle
  go_wp2_with fail
  refine (told_nil _).mono ?_
  rintro e w3 ⟨rfl, rfl⟩
  go_wp2_with fail
  refine bodyPost_ret (v := .agg #[.string ⟨#[]⟩, .int .i64 (text.length : Int), .int .i32 0, .string ⟨#[]⟩]) (by simp [results, Tryd.results29, go_sem, k1c0, k1c1, k1c2, k1c3]) rfl ?_
  have hfs : ∀ w3, Fr [w.heap.size + 1, w.heap.size + 1 + 1] w2 w3 → CallPost W b s _ g len w (.returned (.agg #[.string ⟨#[]⟩, .int .i64 (text.length : Int), .int .i32 0, .string ⟨#[]⟩])) w3 := fun w3 hf3 =>
    (callPost_known (st := ⟨[], (text.length : Int), 0, []⟩) HM.out (hf12.trans_of hf3 (by simp; omega)) (HS2.out.fr hf3 (by simp; omega) hgx) (by show len' ≤ len + text.length + 4; have := HLE.out; omega) :)
  exact hfs _ (by repeat (first | refine Fr.setCell ?_ (.inl (by simp)) _ | exact Fr.refl _ _))

set_option maxHeartbeats 4000000 in
set_option maxRecDepth 100000 in
theorem call_writebyte (hk : o.kind = k_writebyte) (ho : o.Ok) (hlim : len + o.text.length + 4 ≤ 140737488355328) : Calls Tryd.prog 29 #[.pointer (some ⟨b, 0, none⟩), o.val] w (CallPost W b s o g len w) := by
  obtain ⟨kind, text, size, n, char⟩ := o
  simp only at hk
  subst hk
  have HM := Lib.hid (callM_writebyte s ⟨k_writebyte, text, size, n, char⟩ rfl)
  try simp only at HM
  have hsz : size ≤ 65535 := ho.size
  have hc0 : -2147483648 ≤ char := ho.c0
  have hc1 : char ≤ 2147483647 := ho.c1
  clear ho
  try simp only at hlim
  have hbl : b < w.heap.size := h.bw.buf.blk.lt
  have hgl : ∀ x, g = some x → x < w.heap.size := fun x e => (h.bw.buf.some_ x e).2.lt
  have hcap := h.bw.buf.cap_le
  have hlen := h.bw.buf.len_le
  have hlo := h.bw.len_
  have hlr4 := h.rec_.le4
  have HL := Lib.hid fun o1 o2 o3 => Buffer_WriteByte _ (((h.bw.buf.alloc o1).alloc o2).alloc o3) (UInt8.ofNat size) (by omega)
  rw [show ((UInt8.ofNat size).toNat : Int) = (size : Int) % 256 by simp] at HL
  have H := Lib.hid h
  clear h
  unfold OpV.val
  go_enter Tryd.func29, Tryd.ntmps29
  go_wp2_with fail
  refine (HL.out _ _ _).mono ?_
  rintro e w2 ⟨g', row', len', off', rfl, hp⟩
  have hf2 := hp.fr
  obtain ⟨k1, k2⟩ := two_facts hf2 (by simp only [List.mem_cons, Option.mem_toList]; rintro i (rfl | hi); exact hbl; exact hgl i hi)
  have k1c0 : w2.cell? ⟨w.heap.size + 1, 0, none⟩ = some (.string ⟨#[]⟩) := k1.cell 0
  have k1f0 := k1.frozen 0
  have k1c1 : w2.cell? ⟨w.heap.size + 1, 1, none⟩ = some (.int .i64 0) := k1.cell 1
  have k1f1 := k1.frozen 1
  have k1c2 : w2.cell? ⟨w.heap.size + 1, 2, none⟩ = some (.int .i32 0) := k1.cell 2
  have k1f2 := k1.frozen 2
  have k1c3 : w2.cell? ⟨w.heap.size + 1, 3, none⟩ = some (.string ⟨#[]⟩) := k1.cell 3
  have k1f3 := k1.frozen 3
  have k2c0 : w2.cell? ⟨w.heap.size + 1 + 1, 0, none⟩ = some (.string ⟨#[]⟩) := k2.cell 0
  have k2f0 := k2.frozen 0
  have k2c1 : w2.cell? ⟨w.heap.size + 1 + 1, 1, none⟩ = some (.int .i64 0) := k2.cell 1
  have k2f1 := k2.frozen 1
  have k2c2 : w2.cell? ⟨w.heap.size + 1 + 1, 2, none⟩ = some (.int .i32 0) := k2.cell 2
  have k2f2 := k2.frozen 2
  have k2c3 : w2.cell? ⟨w.heap.size + 1 + 1, 3, none⟩ = some (.string ⟨#[]⟩) := k2.cell 3
  have k2f3 := k2.frozen 3
  clear k1 k2
  have hf12 : Fr (b :: g.toList) w w2 := fr_three hf2 (fun i hi => .inl hi)
  have hgx : ∀ x, g' = some x → x ∉ [w.heap.size + 1, w.heap.size + 1 + 1] := fun x e => by
    rcases hp.at_ x e with h1 | h1
    · have := hgl x h1; simp; omega
    · simp at h1; simp; omega
  have hS2 : Scr W w2 b (s.wr [UInt8.ofNat size]) g' row' len' off' 0 := by
    refine ⟨?_, RecOk.wr _ _ _ _⟩
    rw [wr_text]
    exact (((H.out.bw.alloc _).alloc _).alloc _).put (by simp; omega) hp
  have HS2 := Lib.hid hS2
  have hle : len' ≤ len + ([UInt8.ofNat size]).length := hp.len_le
  have HLE := Lib.hid hle
  clear hp hS2 hle
  go_wp2_with fail
  refine (told_nil _).mono ?_
  rintro e w3 ⟨rfl, rfl⟩
  go_wp2_with fail
  refine bodyPost_ret (v := .agg #[.string ⟨#[]⟩, .int .i64 0, .int .i32 0, .string ⟨#[]⟩]) (by simp [results, Tryd.results29, go_sem, k1c0, k1c1, k1c2, k1c3]) rfl ?_
  have hfs : ∀ w3, Fr [w.heap.size + 1, w.heap.size + 1 + 1] w2 w3 → CallPost W b s _ g len w (.returned (.agg #[.string ⟨#[]⟩, .int .i64 0, .int .i32 0, .string ⟨#[]⟩])) w3 := fun w3 hf3 =>
    (callPost_known (st := ⟨[], 0, 0, []⟩) HM.out (hf12.trans_of hf3 (by simp; omega)) (HS2.out.fr hf3 (by simp; omega) hgx) (by show len' ≤ len + text.length + 4; have := HLE.out; simp only [List.length_cons, List.length_nil] at this; omega) :)
  exact hfs _ (by repeat (first | refine Fr.setCell ?_ (.inl (by simp)) _ | exact Fr.refl _ _))

set_option maxHeartbeats 4000000 in
set_option maxRecDepth 100000 in
theorem call_writerune (hk : o.kind = k_writerune) (ho : o.Ok) (hlim : len + o.text.length + 4 ≤ 140737488355328) : Calls Tryd.prog 29 #[.pointer (some ⟨b, 0, none⟩), o.val] w (CallPost W b s o g len w) := by
  obtain ⟨kind, text, size, n, char⟩ := o
  simp only at hk
  subst hk
  have HM := Lib.hid (callM_writerune s ⟨k_writerune, text, size, n, char⟩ rfl)
  try simp only at HM
  have hsz : size ≤ 65535 := ho.size
  have hc0 : -2147483648 ≤ char := ho.c0
  have hc1 : char ≤ 2147483647 := ho.c1
  clear ho
  try simp only at hlim
  have hbl : b < w.heap.size := h.bw.buf.blk.lt
  have hgl : ∀ x, g = some x → x < w.heap.size := fun x e => (h.bw.buf.some_ x e).2.lt
  have hcap := h.bw.buf.cap_le
  have hlen := h.bw.buf.len_le
  have hlo := h.bw.len_
  have hlr4 := h.rec_.le4
  have HL := Lib.hid fun o1 o2 o3 => Buffer_WriteRune _ (((h.bw.buf.alloc o1).alloc o2).alloc o3) char hc0 hc1 (by omega)
  have H := Lib.hid h
  clear h
  unfold OpV.val
  go_enter Tryd.func29, Tryd.ntmps29
  go_wp2_with fail
  refine (HL.out _ _ _).mono ?_
  rintro e w2 ⟨g', row', len', off', q, rfl, HQ, hp⟩
  have hf2 := hp.fr
  obtain ⟨k1, k2⟩ := two_facts hf2 (by simp only [List.mem_cons, Option.mem_toList]; rintro i (rfl | hi); exact hbl; exact hgl i hi)
  have k1c0 : w2.cell? ⟨w.heap.size + 1, 0, none⟩ = some (.string ⟨#[]⟩) := k1.cell 0
  have k1f0 := k1.frozen 0
  have k1c1 : w2.cell? ⟨w.heap.size + 1, 1, none⟩ = some (.int .i64 0) := k1.cell 1
  have k1f1 := k1.frozen 1
  have k1c2 : w2.cell? ⟨w.heap.size + 1, 2, none⟩ = some (.int .i32 0) := k1.cell 2
  have k1f2 := k1.frozen 2
  have k1c3 : w2.cell? ⟨w.heap.size + 1, 3, none⟩ = some (.string ⟨#[]⟩) := k1.cell 3
  have k1f3 := k1.frozen 3
  have k2c0 : w2.cell? ⟨w.heap.size + 1 + 1, 0, none⟩ = some (.string ⟨#[]⟩) := k2.cell 0
  have k2f0 := k2.frozen 0
  have k2c1 : w2.cell? ⟨w.heap.size + 1 + 1, 1, none⟩ = some (.int .i64 0) := k2.cell 1
  have k2f1 := k2.frozen 1
  have k2c2 : w2.cell? ⟨w.heap.size + 1 + 1, 2, none⟩ = some (.int .i32 0) := k2.cell 2
  have k2f2 := k2.frozen 2
  have k2c3 : w2.cell? ⟨w.heap.size + 1 + 1, 3, none⟩ = some (.string ⟨#[]⟩) := k2.cell 3
  have k2f3 := k2.frozen 3
  clear k1 k2
  have hf12 : Fr (b :: g.toList) w w2 := fr_three hf2 (fun i hi => .inl hi)
  have hgx : ∀ x, g' = some x → x ∉ [w.heap.size + 1, w.heap.size + 1 + 1] := fun x e => by
    rcases hp.at_ x e with h1 | h1
    · have := hgl x h1; simp; omega
    · simp at h1; simp; omega
  have hS2 : Scr W w2 b (s.wr (Lib.encodeRune char)) g' row' len' off' 0 := by
    refine ⟨?_, RecOk.wr _ _ _ _⟩
    rw [wr_text]
    exact (((H.out.bw.alloc _).alloc _).alloc _).putR (by simp; omega) hp
  have HS2 := Lib.hid hS2
  have hle : len' ≤ len + ((Lib.encodeRune char)).length := hp.len_le
  have HLE := Lib.hid hle
  clear hp hS2 hle
  go_wp2_with fail
  refine (told_nil _).mono ?_
  rintro e w3 ⟨rfl, rfl⟩
  go_wp2_with fail
  obtain rfl := HQ.out
  refine bodyPost_ret (v := .agg #[.string ⟨#[]⟩, .int .i64 ((Lib.encodeRune char).length : Int), .int .i32 0, .string ⟨#[]⟩]) (by simp [results, Tryd.results29, go_sem, k1c0, k1c1, k1c2, k1c3]) rfl ?_
  have hfs : ∀ w3, Fr [w.heap.size + 1, w.heap.size + 1 + 1] w2 w3 → CallPost W b s _ g len w (.returned (.agg #[.string ⟨#[]⟩, .int .i64 ((Lib.encodeRune char).length : Int), .int .i32 0, .string ⟨#[]⟩])) w3 := fun w3 hf3 =>
    (callPost_known (st := ⟨[], ((Lib.encodeRune char).length : Int), 0, []⟩) HM.out (hf12.trans_of hf3 (by simp; omega)) (HS2.out.fr hf3 (by simp; omega) hgx) (by show len' ≤ len + text.length + 4; have := HLE.out; have := enc_len' char; omega) :)
  exact hfs _ (by repeat (first | refine Fr.setCell ?_ (.inl (by simp)) _ | exact Fr.refl _ _))

set_option maxHeartbeats 4000000 in
set_option maxRecDepth 100000 in
theorem call_truncate_bad (hk : o.kind = k_truncate) (hb : o.n < 0 ∨ (s.text.length : Int) < o.n) : Calls Tryd.prog 29 #[.pointer (some ⟨b, 0, none⟩), o.val] w (CallPost W b s o g len w) := by
  obtain ⟨kind, text, size, n, char⟩ := o
  simp only at hk
  subst hk
  have HM := Lib.hid (callM_truncate s ⟨k_truncate, text, size, n, char⟩ rfl)
  try simp only at HM
  try simp only at hb
  have hbl : b < w.heap.size := h.bw.buf.blk.lt
  have hgl : ∀ x, g = some x → x < w.heap.size := fun x e => (h.bw.buf.some_ x e).2.lt
  have hcap := h.bw.buf.cap_le
  have hlen := h.bw.buf.len_le
  have hlo := h.bw.len_
  have hlr4 := h.rec_.le4
  have HL := Lib.hid fun o1 o2 o3 => impl_truncate_bad _ (((h.bw.buf.alloc o1).alloc o2).alloc o3) n (by rw [hlo]; exact hb)
  rw [if_pos hb] at HM
  have H := Lib.hid h
  clear h
  unfold OpV.val
  go_enter Tryd.func29, Tryd.ntmps29
  go_wp2_with fail
  refine (HL.out _ _ _).mono ?_
  rintro e w2 ⟨rfl, hf2⟩
  obtain ⟨k1, k2⟩ := two_facts hf2 (by simp; omega)
  have k1c0 : w2.cell? ⟨w.heap.size + 1, 0, none⟩ = some (.string ⟨#[]⟩) := k1.cell 0
  have k1f0 := k1.frozen 0
  have k1c1 : w2.cell? ⟨w.heap.size + 1, 1, none⟩ = some (.int .i64 0) := k1.cell 1
  have k1f1 := k1.frozen 1
  have k1c2 : w2.cell? ⟨w.heap.size + 1, 2, none⟩ = some (.int .i32 0) := k1.cell 2
  have k1f2 := k1.frozen 2
  have k1c3 : w2.cell? ⟨w.heap.size + 1, 3, none⟩ = some (.string ⟨#[]⟩) := k1.cell 3
  have k1f3 := k1.frozen 3
  have k2c0 : w2.cell? ⟨w.heap.size + 1 + 1, 0, none⟩ = some (.string ⟨#[]⟩) := k2.cell 0
  have k2f0 := k2.frozen 0
  have k2c1 : w2.cell? ⟨w.heap.size + 1 + 1, 1, none⟩ = some (.int .i64 0) := k2.cell 1
  have k2f1 := k2.frozen 1
  have k2c2 : w2.cell? ⟨w.heap.size + 1 + 1, 2, none⟩ = some (.int .i32 0) := k2.cell 2
  have k2f2 := k2.frozen 2
  have k2c3 : w2.cell? ⟨w.heap.size + 1 + 1, 3, none⟩ = some (.string ⟨#[]⟩) := k2.cell 3
  have k2f3 := k2.frozen 3
  clear k1 k2
  have hf12 : Fr (b :: g.toList) w w2 := fr_three hf2 (by simp)
  go_wp2_with fail
  refine bodyPost_ret (v := .agg #[.string ⟨#[]⟩, .int .i64 0, .int .i32 0, .string ⟨#[112, 97, 110, 105, 99]⟩]) (by simp [results, Tryd.results29, go_sem, k1c0, k1c1, k1c2, k1c3]) rfl ?_
  have hfs : ∀ w3, Fr [w.heap.size + 1, w.heap.size + 1 + 1] w2 w3 → CallPost W b s _ g len w (.returned (.agg #[.string ⟨#[]⟩, .int .i64 0, .int .i32 0, .string ⟨#[112, 97, 110, 105, 99]⟩])) w3 := fun w3 hf3 =>
    callPost_panic HM.out (hf12.trans_of hf3 (by simp; omega))
  exact hfs _ (by repeat (first | refine Fr.setCell ?_ (.inl (by simp)) _ | exact Fr.refl _ _))

set_option maxHeartbeats 4000000 in
set_option maxRecDepth 100000 in
theorem call_truncate_ok (hk : o.kind = k_truncate) (hb : ¬ (o.n < 0 ∨ (s.text.length : Int) < o.n)) : Calls Tryd.prog 29 #[.pointer (some ⟨b, 0, none⟩), o.val] w (CallPost W b s o g len w) := by
  obtain ⟨kind, text, size, n, char⟩ := o
  simp only at hk
  subst hk
  have HM := Lib.hid (callM_truncate s ⟨k_truncate, text, size, n, char⟩ rfl)
  try simp only at HM
  try simp only at hb
  have hbl : b < w.heap.size := h.bw.buf.blk.lt
  have hgl : ∀ x, g = some x → x < w.heap.size := fun x e => (h.bw.buf.some_ x e).2.lt
  have hcap := h.bw.buf.cap_le
  have hlen := h.bw.buf.len_le
  have hlo := h.bw.len_
  have hlr4 := h.rec_.le4
  rw [if_neg hb] at HM
  obtain ⟨m, hm⟩ : ∃ m : Nat, n = (m : Int) := ⟨n.toNat, by omega⟩
  have HL := Lib.hid fun o1 o2 o3 => impl_truncate_ok _ (((h.bw.buf.alloc o1).alloc o2).alloc o3) m (by omega)
  rw [← hm] at HL
  have HMM := Lib.hid hm
  clear hm
  have H := Lib.hid h
  clear h
  unfold OpV.val
  go_enter Tryd.func29, Tryd.ntmps29
  go_wp2_with fail
  refine (HL.out _ _ _).mono ?_
  rintro e w2 ⟨len', off', rfl, hB2, HA, hf2⟩
  obtain ⟨k1, k2⟩ := two_facts hf2 (by simp; omega)
  have k1c0 : w2.cell? ⟨w.heap.size + 1, 0, none⟩ = some (.string ⟨#[]⟩) := k1.cell 0
  have k1f0 := k1.frozen 0
  have k1c1 : w2.cell? ⟨w.heap.size + 1, 1, none⟩ = some (.int .i64 0) := k1.cell 1
  have k1f1 := k1.frozen 1
  have k1c2 : w2.cell? ⟨w.heap.size + 1, 2, none⟩ = some (.int .i32 0) := k1.cell 2
  have k1f2 := k1.frozen 2
  have k1c3 : w2.cell? ⟨w.heap.size + 1, 3, none⟩ = some (.string ⟨#[]⟩) := k1.cell 3
  have k1f3 := k1.frozen 3
  have k2c0 : w2.cell? ⟨w.heap.size + 1 + 1, 0, none⟩ = some (.string ⟨#[]⟩) := k2.cell 0
  have k2f0 := k2.frozen 0
  have k2c1 : w2.cell? ⟨w.heap.size + 1 + 1, 1, none⟩ = some (.int .i64 0) := k2.cell 1
  have k2f1 := k2.frozen 1
  have k2c2 : w2.cell? ⟨w.heap.size + 1 + 1, 2, none⟩ = some (.int .i32 0) := k2.cell 2
  have k2f2 := k2.frozen 2
  have k2c3 : w2.cell? ⟨w.heap.size + 1 + 1, 3, none⟩ = some (.string ⟨#[]⟩) := k2.cell 3
  have k2f3 := k2.frozen 3
  clear k1 k2
  have hf12 : Fr (b :: g.toList) w w2 := fr_three hf2 (by simp)
  have hmm := HMM.out
  have hS2 : Scr W w2 b (s.oth (s.text.take n.toNat)) g row len' off' 0 := by
    refine ⟨H.out.bw.same hB2 ?_, RecOk.oth _ _ _ _ _⟩
    show unread row len' off' = s.text.take n.toNat
    obtain ⟨e1, e2, _⟩ := HA.out
    have hol := hB2.off_le
    rw [hmm, Int.toNat_natCast]
    by_cases h0 : m = 0
    · subst h0
      rw [List.take_zero]
      exact List.eq_nil_of_length_eq_zero (by rw [unread_length hB2.len_le]; omega)
    · have e3 := e2 h0
      subst e3
      rw [← H.out.bw.reads, unread_eq, unread_eq, List.take_take, e1, Nat.min_eq_left (by omega)]
  have hle : len' ≤ len := HA.out.2.2
  have HS2 := Lib.hid hS2
  clear hB2 hS2
  go_wp2_with fail
  refine bodyPost_ret (v := .agg #[.string ⟨#[]⟩, .int .i64 0, .int .i32 0, .string ⟨#[]⟩]) (by simp [results, Tryd.results29, go_sem, k1c0, k1c1, k1c2, k1c3]) rfl ?_
  have hfs : ∀ w3, Fr [w.heap.size + 1, w.heap.size + 1 + 1] w2 w3 → CallPost W b s _ g len w (.returned (.agg #[.string ⟨#[]⟩, .int .i64 0, .int .i32 0, .string ⟨#[]⟩])) w3 := fun w3 hf3 =>
    (callPost_known (st := ⟨[], 0, 0, []⟩) HM.out (hf12.trans_of hf3 (by simp; omega)) (HS2.out.fr hf3 (by simp; omega) (fun x e => by have := hgl x e; simp; omega)) (by show len' ≤ len + text.length + 4; omega) :)
  exact hfs _ (by repeat (first | refine Fr.setCell ?_ (.inl (by simp)) _ | exact Fr.refl _ _))

set_option maxHeartbeats 4000000 in
set_option maxRecDepth 100000 in
theorem call_grow_bad (hk : o.kind = k_grow) (hb : o.n < 0) : Calls Tryd.prog 29 #[.pointer (some ⟨b, 0, none⟩), o.val] w (CallPost W b s o g len w) := by
  obtain ⟨kind, text, size, n, char⟩ := o
  simp only at hk
  subst hk
  have HM := Lib.hid (callM_grow s ⟨k_grow, text, size, n, char⟩ rfl)
  try simp only at HM
  try simp only at hb
  have hbl : b < w.heap.size := h.bw.buf.blk.lt
  have hgl : ∀ x, g = some x → x < w.heap.size := fun x e => (h.bw.buf.some_ x e).2.lt
  have hcap := h.bw.buf.cap_le
  have hlen := h.bw.buf.len_le
  have hlo := h.bw.len_
  have hlr4 := h.rec_.le4
  have HL := Lib.hid fun o1 o2 o3 => impl_grow_bad _ (((h.bw.buf.alloc o1).alloc o2).alloc o3) n hb
  rw [if_pos hb] at HM
  have H := Lib.hid h
  clear h
  unfold OpV.val
  go_enter Tryd.func29, Tryd.ntmps29
  go_wp2_with fail
  refine (HL.out _ _ _).mono ?_
  rintro e w2 ⟨rfl, hB2, hf2⟩
  obtain ⟨k1, k2⟩ := two_facts hf2 (by simp)
  have k1c0 : w2.cell? ⟨w.heap.size + 1, 0, none⟩ = some (.string ⟨#[]⟩) := k1.cell 0
  have k1f0 := k1.frozen 0
  have k1c1 : w2.cell? ⟨w.heap.size + 1, 1, none⟩ = some (.int .i64 0) := k1.cell 1
  have k1f1 := k1.frozen 1
  have k1c2 : w2.cell? ⟨w.heap.size + 1, 2, none⟩ = some (.int .i32 0) := k1.cell 2
  have k1f2 := k1.frozen 2
  have k1c3 : w2.cell? ⟨w.heap.size + 1, 3, none⟩ = some (.string ⟨#[]⟩) := k1.cell 3
  have k1f3 := k1.frozen 3
  have k2c0 : w2.cell? ⟨w.heap.size + 1 + 1, 0, none⟩ = some (.string ⟨#[]⟩) := k2.cell 0
  have k2f0 := k2.frozen 0
  have k2c1 : w2.cell? ⟨w.heap.size + 1 + 1, 1, none⟩ = some (.int .i64 0) := k2.cell 1
  have k2f1 := k2.frozen 1
  have k2c2 : w2.cell? ⟨w.heap.size + 1 + 1, 2, none⟩ = some (.int .i32 0) := k2.cell 2
  have k2f2 := k2.frozen 2
  have k2c3 : w2.cell? ⟨w.heap.size + 1 + 1, 3, none⟩ = some (.string ⟨#[]⟩) := k2.cell 3
  have k2f3 := k2.frozen 3
  clear k1 k2
  have hf12 : Fr (b :: g.toList) w w2 := fr_three hf2 (by simp)
  go_wp2_with fail
  refine bodyPost_ret (v := .agg #[.string ⟨#[]⟩, .int .i64 0, .int .i32 0, .string ⟨#[112, 97, 110, 105, 99]⟩]) (by simp [results, Tryd.results29, go_sem, k1c0, k1c1, k1c2, k1c3]) rfl ?_
  have hfs : ∀ w3, Fr [w.heap.size + 1, w.heap.size + 1 + 1] w2 w3 → CallPost W b s _ g len w (.returned (.agg #[.string ⟨#[]⟩, .int .i64 0, .int .i32 0, .string ⟨#[112, 97, 110, 105, 99]⟩])) w3 := fun w3 hf3 =>
    callPost_panic HM.out (hf12.trans_of hf3 (by simp; omega))
  exact hfs _ (by repeat (first | refine Fr.setCell ?_ (.inl (by simp)) _ | exact Fr.refl _ _))

set_option maxHeartbeats 4000000 in
set_option maxRecDepth 100000 in
theorem call_grow_ok (hk : o.kind = k_grow) (hb : ¬ o.n < 0) (hlim : len + o.n ≤ 140737488355328) : Calls Tryd.prog 29 #[.pointer (some ⟨b, 0, none⟩), o.val] w (CallPost W b s o g len w) := by
  obtain ⟨kind, text, size, n, char⟩ := o
  simp only at hk
  subst hk
  have HM := Lib.hid (callM_grow s ⟨k_grow, text, size, n, char⟩ rfl)
  try simp only at HM
  try simp only at hlim
  try simp only at hb
  have hbl : b < w.heap.size := h.bw.buf.blk.lt
  have hgl : ∀ x, g = some x → x < w.heap.size := fun x e => (h.bw.buf.some_ x e).2.lt
  have hcap := h.bw.buf.cap_le
  have hlen := h.bw.buf.len_le
  have hlo := h.bw.len_
  have hlr4 := h.rec_.le4
  rw [if_neg hb] at HM
  obtain ⟨m, hm⟩ : ∃ m : Nat, n = (m : Int) := ⟨n.toNat, by omega⟩
  have HL := Lib.hid fun o1 o2 o3 => impl_grow_okL _ (((h.bw.buf.alloc o1).alloc o2).alloc o3) m (by omega)
  rw [← hm] at HL
  clear hm
  have H := Lib.hid h
  clear h
  unfold OpV.val
  go_enter Tryd.func29, Tryd.ntmps29
  go_wp2_with fail
  refine (HL.out _ _ _).mono ?_
  rintro e w2 ⟨g', row', len', off', lr', rfl, hp, hlrp⟩
  have hlr5 : lr' ≤ 4 := by rcases hlrp with h1 | h1 <;> omega
  have hf2 := hp.fr
  obtain ⟨k1, k2⟩ := two_facts hf2 (by simp only [List.mem_cons, Option.mem_toList]; rintro i (rfl | hi); exact hbl; exact hgl i hi)
  have k1c0 : w2.cell? ⟨w.heap.size + 1, 0, none⟩ = some (.string ⟨#[]⟩) := k1.cell 0
  have k1f0 := k1.frozen 0
  have k1c1 : w2.cell? ⟨w.heap.size + 1, 1, none⟩ = some (.int .i64 0) := k1.cell 1
  have k1f1 := k1.frozen 1
  have k1c2 : w2.cell? ⟨w.heap.size + 1, 2, none⟩ = some (.int .i32 0) := k1.cell 2
  have k1f2 := k1.frozen 2
  have k1c3 : w2.cell? ⟨w.heap.size + 1, 3, none⟩ = some (.string ⟨#[]⟩) := k1.cell 3
  have k1f3 := k1.frozen 3
  have k2c0 : w2.cell? ⟨w.heap.size + 1 + 1, 0, none⟩ = some (.string ⟨#[]⟩) := k2.cell 0
  have k2f0 := k2.frozen 0
  have k2c1 : w2.cell? ⟨w.heap.size + 1 + 1, 1, none⟩ = some (.int .i64 0) := k2.cell 1
  have k2f1 := k2.frozen 1
  have k2c2 : w2.cell? ⟨w.heap.size + 1 + 1, 2, none⟩ = some (.int .i32 0) := k2.cell 2
  have k2f2 := k2.frozen 2
  have k2c3 : w2.cell? ⟨w.heap.size + 1 + 1, 3, none⟩ = some (.string ⟨#[]⟩) := k2.cell 3
  have k2f3 := k2.frozen 3
  clear k1 k2
  have hf12 : Fr (b :: g.toList) w w2 := fr_three hf2 (fun i hi => .inl hi)
  have hgx : ∀ x, g' = some x → x ∉ [w.heap.size + 1, w.heap.size + 1 + 1] := fun x e => by
    rcases hp.at_ x e with h1 | h1
    · have := hgl x h1; simp; omega
    · simp at h1; simp; omega
  have hS2 : Scr W w2 b (s.oth s.text) g' row' len' off' lr' := ⟨(((H.out.bw.alloc _).alloc _).alloc _).gro (by simp; omega) hp, RecOk.oth _ _ _ _ _⟩
  have HS2 := Lib.hid hS2
  have hle := hp.len_le
  clear hp hS2
  go_wp2_with fail
  refine bodyPost_ret (v := .agg #[.string ⟨#[]⟩, .int .i64 0, .int .i32 0, .string ⟨#[]⟩]) (by simp [results, Tryd.results29, go_sem, k1c0, k1c1, k1c2, k1c3]) rfl ?_
  have hfs : ∀ w3, Fr [w.heap.size + 1, w.heap.size + 1 + 1] w2 w3 → CallPost W b s _ g len w (.returned (.agg #[.string ⟨#[]⟩, .int .i64 0, .int .i32 0, .string ⟨#[]⟩])) w3 := fun w3 hf3 =>
    (callPost_known (st := ⟨[], 0, 0, []⟩) HM.out (hf12.trans_of hf3 (by simp; omega)) (HS2.out.fr hf3 (by simp; omega) hgx) (by show len' ≤ len + text.length + 4; omega) :)
  exact hfs _ (by repeat (first | refine Fr.setCell ?_ (.inl (by simp)) _ | exact Fr.refl _ _))

end
end Go.Proofs.YtgjaeggpaomoaaaDoor
