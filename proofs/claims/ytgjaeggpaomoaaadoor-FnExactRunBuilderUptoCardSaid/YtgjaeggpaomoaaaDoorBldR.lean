/- A script's calls on a builder. A script of calls on a builder. -/
import Derived.Test.YtgjaeggpaomoaaaDoorRun
import Derived.Test.YtgjaeggpaomoaaaDoorBldAll
import Derived.Test.YtgjaeggpaomoaaaDoorPlainR
import Derived.Test.YtgjaeggpaomoaaaDoorRg
namespace Go.Proofs.YtgjaeggpaomoaaaDoor
open Go.RowKit
set_option linter.unusedVariables false
set_option linter.unusedSectionVars false
attribute [local go_sem ↓] Go.wp_at_zero Go.wp_at_succ

def bkinds : List (List UInt8) := [k_write, k_writestring, k_writebyte, k_writerune, k_grow, k_reset, k_len, k_string]
/-- What a call makes of a builder's string, and what it returns. -/
def callB (t : List UInt8) (o : OpV) : List UInt8 × StV := if o.kind ∈ bkinds then ((callM (sta0 t) o).1.text, (callM (sta0 t) o).2.1) else (t, zst)
theorem callB_in (t : List UInt8) (o : OpV) (h : o.kind ∈ bkinds) (s : Sta) (st : StV) (b : Bool) (hm : callM (sta0 t) o = (s, st, b)) : callB t o = (s.text, st) := by
  unfold callB
  rw [if_pos h, hm]
theorem callB_out (t : List UInt8) (o : OpV) (h : o.kind ∉ bkinds) : callB t o = (t, zst) := by
  unfold callB
  rw [if_neg h]
/-- What a call of a script on a builder leaves. -/
def BuildPost (W b : Nat) (t : List UInt8) (o : OpV) (g : Option Nat) (w : World) (e : Ending) (w' : World) : Prop :=
  ∃ st : StV, e = .returned (.agg #[.string ⟨st.text.toArray⟩, .int .i64 st.n, .int .i32 st.char, .string ⟨st.err.toArray⟩]) ∧ Hid (st = (callB t o).2) ∧ Fr (b :: g.toList) w w' ∧ Hid (st.err = e_panic ∨ ∃ g' row' len', Bs W w' b (callB t o).1 g' row' len')
theorem buildPost_known {W b : Nat} {t t' : List UInt8} {o : OpV} {g g' : Option Nat} {len' : Nat} {row' : List UInt8} {w w' : World} {st : StV} (hM : callB t o = (t', st)) (hf : Fr (b :: g.toList) w w') (hS : Bs W w' b t' g' row' len') :
    BuildPost W b t o g w (.returned (.agg #[.string ⟨st.text.toArray⟩, .int .i64 st.n, .int .i32 st.char, .string ⟨st.err.toArray⟩])) w' :=
  ⟨st, rfl, Lib.hid (by rw [hM]), hf, Lib.hid (.inr ⟨g', row', len', by rw [hM]; exact hS⟩)⟩
theorem buildPost_panic {W b : Nat} {t t' : List UInt8} {o : OpV} {g : Option Nat} {w w' : World} (hM : callB t o = (t', est e_panic)) (hf : Fr (b :: g.toList) w w') :
    BuildPost W b t o g w (.returned (.agg #[.string ⟨#[]⟩, .int .i64 0, .int .i32 0, .string ⟨#[112, 97, 110, 105, 99]⟩])) w' :=
  ⟨est e_panic, rfl, Lib.hid (by rw [hM]), hf, Lib.hid (.inl rfl)⟩
theorem Bs.fr {W : Nat} {wr w' : World} {b : Nat} {s : List UInt8} {g : Option Nat} {row : List UInt8} {len : Nat} {S : List Nat} (h : Bs W wr b s g row len) (hf : Fr S wr w') (hb : b ∉ S) (hg : ∀ x, g = some x → x ∉ S) : Bs W w' b s g row len := ⟨h.bld.fr hf hb hg, h.reads, h.new_, h.b_⟩
theorem Bs.alloc {W : Nat} {wr : World} {b : Nat} {s : List UInt8} {g : Option Nat} {row : List UInt8} {len : Nat} (h : Bs W wr b s g row len) (o : Obj) : Bs W (wr.alloc o) b s g row len := ⟨h.bld.alloc o, h.reads, h.new_, h.b_⟩
theorem Bld.glt {w : World} {b : Nat} {g : Option Nat} {row : List UInt8} {len : Nat} (h : Bld w b g row len) : ∀ x, g = some x → x < w.heap.size := fun x e => by obtain ⟨p, _, h⟩ := h; exact (h.some_ x e).2.lt

section
variable {W b : Nat} {t : List UInt8} {g : Option Nat} {row : List UInt8} {len : Nat} (w : World) (h : Bs W w b t g row len) (hWw : W ≤ w.heap.size) (o : OpV)
include h hWw

set_option maxHeartbeats 4000000 in
set_option maxRecDepth 100000 in
theorem bld_reset (hk : o.kind = k_reset) : Calls Tryd.prog 27 #[.pointer (some ⟨b, 0, none⟩), o.val] w (BuildPost W b t o g w) := by
  obtain ⟨kind, text, size, n, char⟩ := o
  simp only at hk
  subst hk
  have HM := Lib.hid (callB_in t ⟨k_reset, text, size, n, char⟩ (by simp [bkinds]) _ _ _ (callM_reset _ _ rfl))
  try simp only at HM
  have hbl : b < w.heap.size := h.bld.lt
  have hgl : ∀ x, g = some x → x < w.heap.size := h.bld.glt
  have hcap := h.bld.cap_le
  have hlen := h.bld.len_le
  have hlo := h.len
  have HL := Lib.hid fun o1 o2 o3 => Builder_Reset _ (((h.bld.alloc o1).alloc o2).alloc o3)
  have H := Lib.hid h
  clear h
  unfold OpV.val
  go_enter Tryd.func27, Tryd.ntmps27
  go_wp2_with fail
  refine (HL.out _ _ _).mono ?_
  rintro e w2 ⟨rfl, hB2, hf2⟩
  obtain ⟨k1, k2⟩ := two_facts hf2 (by simp; omega)
  have k1c0 : w2.cell? ⟨w.heap.size + 1, 0, none⟩ = some (.string ⟨#[]⟩) := k1.cell 0
  have k1f0 := k1.frozen 0
  have k1c1 : w2.cell? ⟨w.heap.size + 1, 1, none⟩ = some (.int .i64 0) := k1.cell 1
  have k1f1 := k1.frozen 1
  have k1c2 : w2.cell? ⟨w.heap.size + 1, 2, none⟩ = some (.int .i32 0) := k1.cell 2
  have k1f2 := k1.frozen 2
  have k1c3 : w2.cell? ⟨w.heap.size + 1, 3, none⟩ = some (.string ⟨#[]⟩) := k1.cell 3
  have k1f3 := k1.frozen 3
  have k2c0 : w2.cell? ⟨w.heap.size + 1 + 1, 0, none⟩ = some (.string ⟨#[]⟩) := k2.cell 0
  have k2f0 := k2.frozen 0
  have k2c1 : w2.cell? ⟨w.heap.size + 1 + 1, 1, none⟩ = some (.int .i64 0) := k2.cell 1
  have k2f1 := k2.frozen 1
  have k2c2 : w2.cell? ⟨w.heap.size + 1 + 1, 2, none⟩ = some (.int .i32 0) := k2.cell 2
  have k2f2 := k2.frozen 2
  have k2c3 : w2.cell? ⟨w.heap.size + 1 + 1, 3, none⟩ = some (.string ⟨#[]⟩) := k2.cell 3
  have k2f3 := k2.frozen 3
  clear k1 k2
  have hf12 : Fr (b :: g.toList) w w2 := fr_three hf2 (by simp)
  have hS2 : Bs W w2 b [] none [] 0 := ⟨hB2, rfl, by simp, H.out.b_⟩
  have HS2 := Lib.hid hS2
  clear hB2 hS2
  go_wp2_with fail
  refine bodyPost_ret (v := .agg #[.string ⟨#[]⟩, .int .i64 0, .int .i32 0, .string ⟨#[]⟩]) (by simp [results, Tryd.results27, go_sem, k1c0, k1c1, k1c2, k1c3]) rfl ?_
  have hfs : ∀ w3, Fr [w.heap.size + 1, w.heap.size + 1 + 1] w2 w3 → BuildPost W b t _ g w (.returned (.agg #[.string ⟨#[]⟩, .int .i64 0, .int .i32 0, .string ⟨#[]⟩])) w3 := fun w3 hf3 =>
    (buildPost_known (st := ⟨[], 0, 0, []⟩) HM.out (hf12.trans_of hf3 (by simp; omega)) (HS2.out.fr hf3 (by simp; omega) (by simp)) :)
  exact hfs _ (by repeat (first | refine Fr.setCell ?_ (.inl (by simp)) _ | exact Fr.refl _ _))

set_option maxHeartbeats 4000000 in
set_option maxRecDepth 100000 in
theorem bld_len (hk : o.kind = k_len) : Calls Tryd.prog 27 #[.pointer (some ⟨b, 0, none⟩), o.val] w (BuildPost W b t o g w) := by
  obtain ⟨kind, text, size, n, char⟩ := o
  simp only at hk
  subst hk
  have HM := Lib.hid (callB_in t ⟨k_len, text, size, n, char⟩ (by simp [bkinds]) _ _ _ (callM_len _ _ rfl))
  try simp only at HM
  have hbl : b < w.heap.size := h.bld.lt
  have hgl : ∀ x, g = some x → x < w.heap.size := h.bld.glt
  have hcap := h.bld.cap_le
  have hlen := h.bld.len_le
  have hlo := h.len
  have HL := Lib.hid fun o1 o2 o3 => Builder_Len _ (((h.bld.alloc o1).alloc o2).alloc o3)
  rw [hlo] at HL
  have H := Lib.hid h
  clear h
  unfold OpV.val
  go_enter Tryd.func27, Tryd.ntmps27
  go_wp2_with fail
  refine (HL.out _ _ _).mono ?_
  rintro e w2 ⟨rfl, hw⟩
  have hf2 := Fr.of_eq hw
  obtain ⟨k1, k2⟩ := two_facts hf2 (by simp)
  have k1c0 : w2.cell? ⟨w.heap.size + 1, 0, none⟩ = some (.string ⟨#[]⟩) := k1.cell 0
  have k1f0 := k1.frozen 0
  have k1c1 : w2.cell? ⟨w.heap.size + 1, 1, none⟩ = some (.int .i64 0) := k1.cell 1
  have k1f1 := k1.frozen 1
  have k1c2 : w2.cell? ⟨w.heap.size + 1, 2, none⟩ = some (.int .i32 0) := k1.cell 2
  have k1f2 := k1.frozen 2
  have k1c3 : w2.cell? ⟨w.heap.size + 1, 3, none⟩ = some (.string ⟨#[]⟩) := k1.cell 3
  have k1f3 := k1.frozen 3
  have k2c0 : w2.cell? ⟨w.heap.size + 1 + 1, 0, none⟩ = some (.string ⟨#[]⟩) := k2.cell 0
  have k2f0 := k2.frozen 0
  have k2c1 : w2.cell? ⟨w.heap.size + 1 + 1, 1, none⟩ = some (.int .i64 0) := k2.cell 1
  have k2f1 := k2.frozen 1
  have k2c2 : w2.cell? ⟨w.heap.size + 1 + 1, 2, none⟩ = some (.int .i32 0) := k2.cell 2
  have k2f2 := k2.frozen 2
  have k2c3 : w2.cell? ⟨w.heap.size + 1 + 1, 3, none⟩ = some (.string ⟨#[]⟩) := k2.cell 3
  have k2f3 := k2.frozen 3
  clear k1 k2
  have hf12 : Fr (b :: g.toList) w w2 := fr_three hf2 (by simp)
  have hS2 : Bs W w2 b t g row len := (((H.out.alloc _).alloc _).alloc _).fr hf2 (by simp) (by simp)
  have HS2 := Lib.hid hS2
  clear hS2 hw
  go_wp2_with fail
  refine bodyPost_ret (v := .agg #[.string ⟨#[]⟩, .int .i64 (t.length : Int), .int .i32 0, .string ⟨#[]⟩]) (by simp [results, Tryd.results27, go_sem, k1c0, k1c1, k1c2, k1c3]) rfl ?_
  have hfs : ∀ w3, Fr [w.heap.size + 1, w.heap.size + 1 + 1] w2 w3 → BuildPost W b t _ g w (.returned (.agg #[.string ⟨#[]⟩, .int .i64 (t.length : Int), .int .i32 0, .string ⟨#[]⟩])) w3 := fun w3 hf3 =>
    (buildPost_known (st := ⟨[], (t.length : Int), 0, []⟩) HM.out (hf12.trans_of hf3 (by simp; omega)) (HS2.out.fr hf3 (by simp; omega) (fun x e => by have := hgl x e; simp; omega)) :)
  exact hfs _ (by repeat (first | refine Fr.setCell ?_ (.inl (by simp)) _ | exact Fr.refl _ _))

set_option maxHeartbeats 4000000 in
set_option maxRecDepth 100000 in
theorem bld_string (hk : o.kind = k_string) : Calls Tryd.prog 27 #[.pointer (some ⟨b, 0, none⟩), o.val] w (BuildPost W b t o g w) := by
  obtain ⟨kind, text, size, n, char⟩ := o
  simp only at hk
  subst hk
  have HM := Lib.hid (callB_in t ⟨k_string, text, size, n, char⟩ (by simp [bkinds]) _ _ _ (callM_string _ _ rfl))
  try simp only at HM
  have hbl : b < w.heap.size := h.bld.lt
  have hgl : ∀ x, g = some x → x < w.heap.size := h.bld.glt
  have hcap := h.bld.cap_le
  have hlen := h.bld.len_le
  have hlo := h.len
  have HL := Lib.hid fun o1 o2 o3 => Builder_String _ (((h.bld.alloc o1).alloc o2).alloc o3)
  have H := Lib.hid h
  clear h
  unfold OpV.val
  go_enter Tryd.func27, Tryd.ntmps27
  go_wp2_with fail
  refine (HL.out _ _ _).mono ?_
  rintro e w2 ⟨x, rfl, HX, hB2, hf2⟩
  obtain ⟨k1, k2⟩ := two_facts hf2 (by simp only [Option.mem_toList]; intro i hi; exact hgl i hi)
  have k1c0 : w2.cell? ⟨w.heap.size + 1, 0, none⟩ = some (.string ⟨#[]⟩) := k1.cell 0
  have k1f0 := k1.frozen 0
  have k1c1 : w2.cell? ⟨w.heap.size + 1, 1, none⟩ = some (.int .i64 0) := k1.cell 1
  have k1f1 := k1.frozen 1
  have k1c2 : w2.cell? ⟨w.heap.size + 1, 2, none⟩ = some (.int .i32 0) := k1.cell 2
  have k1f2 := k1.frozen 2
  have k1c3 : w2.cell? ⟨w.heap.size + 1, 3, none⟩ = some (.string ⟨#[]⟩) := k1.cell 3
  have k1f3 := k1.frozen 3
  have k2c0 : w2.cell? ⟨w.heap.size + 1 + 1, 0, none⟩ = some (.string ⟨#[]⟩) := k2.cell 0
  have k2f0 := k2.frozen 0
  have k2c1 : w2.cell? ⟨w.heap.size + 1 + 1, 1, none⟩ = some (.int .i64 0) := k2.cell 1
  have k2f1 := k2.frozen 1
  have k2c2 : w2.cell? ⟨w.heap.size + 1 + 1, 2, none⟩ = some (.int .i32 0) := k2.cell 2
  have k2f2 := k2.frozen 2
  have k2c3 : w2.cell? ⟨w.heap.size + 1 + 1, 3, none⟩ = some (.string ⟨#[]⟩) := k2.cell 3
  have k2f3 := k2.frozen 3
  clear k1 k2
  have hf12 : Fr (b :: g.toList) w w2 := fr_three hf2 (fun i hi => .inl (by simp only [List.mem_cons]; exact .inr hi))
  have hS2 : Bs W w2 b t g row len := ⟨hB2, H.out.reads, H.out.new_, H.out.b_⟩
  have HS2 := Lib.hid hS2
  clear hS2 hB2
  obtain rfl : x = t := by rw [HX.out, H.out.reads]
  go_wp2_with fail
  refine bodyPost_ret (v := .agg #[.string ⟨x.toArray⟩, .int .i64 0, .int .i32 0, .string ⟨#[]⟩]) (by simp [results, Tryd.results27, go_sem, k1c0, k1c1, k1c2, k1c3]) rfl ?_
  have hfs : ∀ w3, Fr [w.heap.size + 1, w.heap.size + 1 + 1] w2 w3 → BuildPost W b x _ g w (.returned (.agg #[.string ⟨x.toArray⟩, .int .i64 0, .int .i32 0, .string ⟨#[]⟩])) w3 := fun w3 hf3 =>
    (buildPost_known (st := ⟨x, 0, 0, []⟩) HM.out (hf12.trans_of hf3 (by simp; omega)) (HS2.out.fr hf3 (by simp; omega) (fun x e => by have := hgl x e; simp; omega)) :)
  exact hfs _ (by repeat (first | refine Fr.setCell ?_ (.inl (by simp)) _ | exact Fr.refl _ _))

set_option maxHeartbeats 4000000 in
set_option maxRecDepth 100000 in
theorem bld_writestring (hk : o.kind = k_writestring) (ho : o.Ok) (hlim : len + o.text.length + 4 ≤ 140737488351232) : Calls Tryd.prog 27 #[.pointer (some ⟨b, 0, none⟩), o.val] w (BuildPost W b t o g w) := by
  obtain ⟨kind, text, size, n, char⟩ := o
  simp only at hk
  subst hk
  have hsz : size ≤ 65535 := ho.size
  have hc0 : -2147483648 ≤ char := ho.c0
  have hc1 : char ≤ 2147483647 := ho.c1
  clear ho
  try simp only at hlim
  have HM := Lib.hid (callB_in t ⟨k_writestring, text, size, n, char⟩ (by simp [bkinds]) _ _ _ (callM_writestring _ _ rfl))
  try simp only at HM
  have hbl : b < w.heap.size := h.bld.lt
  have hgl : ∀ x, g = some x → x < w.heap.size := h.bld.glt
  have hcap := h.bld.cap_le
  have hlen := h.bld.len_le
  have hlo := h.len
  have HL := Lib.hid fun o1 o2 o3 => Builder_WriteString _ (((h.bld.alloc o1).alloc o2).alloc o3) text (by omega)
  have H := Lib.hid h
  clear h
  unfold OpV.val
  go_enter Tryd.func27, Tryd.ntmps27
  go_wp2_with fail
  refine (HL.out _ _ _).mono ?_
  rintro e w2 ⟨g', row', len', rfl, hp⟩
  have hf2 := hp.fr
  obtain ⟨k1, k2⟩ := two_facts hf2 (by simp only [List.mem_cons, Option.mem_toList]; rintro i (rfl | hi); exact hbl; exact hgl i hi)
  have k1c0 : w2.cell? ⟨w.heap.size + 1, 0, none⟩ = some (.string ⟨#[]⟩) := k1.cell 0
  have k1f0 := k1.frozen 0
  have k1c1 : w2.cell? ⟨w.heap.size + 1, 1, none⟩ = some (.int .i64 0) := k1.cell 1
  have k1f1 := k1.frozen 1
  have k1c2 : w2.cell? ⟨w.heap.size + 1, 2, none⟩ = some (.int .i32 0) := k1.cell 2
  have k1f2 := k1.frozen 2
  have k1c3 : w2.cell? ⟨w.heap.size + 1, 3, none⟩ = some (.string ⟨#[]⟩) := k1.cell 3
  have k1f3 := k1.frozen 3
  have k2c0 : w2.cell? ⟨w.heap.size + 1 + 1, 0, none⟩ = some (.string ⟨#[]⟩) := k2.cell 0
  have k2f0 := k2.frozen 0
  have k2c1 : w2.cell? ⟨w.heap.size + 1 + 1, 1, none⟩ = some (.int .i64 0) := k2.cell 1
  have k2f1 := k2.frozen 1
  have k2c2 : w2.cell? ⟨w.heap.size + 1 + 1, 2, none⟩ = some (.int .i32 0) := k2.cell 2
  have k2f2 := k2.frozen 2
  have k2c3 : w2.cell? ⟨w.heap.size + 1 + 1, 3, none⟩ = some (.string ⟨#[]⟩) := k2.cell 3
  have k2f3 := k2.frozen 3
  clear k1 k2
  have hf12 : Fr (b :: g.toList) w w2 := fr_three hf2 (fun i hi => .inl hi)
  have hgx : ∀ x, g' = some x → x ∉ [w.heap.size + 1, w.heap.size + 1 + 1] := fun x e => by
    rcases hp.at_ x e with h1 | h1
    · have := hgl x h1; simp; omega
    · simp at h1; simp; omega
  have hS2 : Bs W w2 b (t ++ text) g' row' len' := (((H.out.alloc _).alloc _).alloc _).wrote (by simp; omega) hp
  have HS2 := Lib.hid hS2
  clear hp hS2
  go_wp2_with fail
  refine (told_nil _).mono ?_
  rintro e w3 ⟨rfl, rfl⟩
  go_wp2_with fail
  refine bodyPost_ret (v := .agg #[.string ⟨#[]⟩, .int .i64 (text.length : Int), .int .i32 0, .string ⟨#[]⟩]) (by simp [results, Tryd.results27, go_sem, k1c0, k1c1, k1c2, k1c3]) rfl ?_
  have hfs : ∀ w3, Fr [w.heap.size + 1, w.heap.size + 1 + 1] w2 w3 → BuildPost W b t _ g w (.returned (.agg #[.string ⟨#[]⟩, .int .i64 (text.length : Int), .int .i32 0, .string ⟨#[]⟩])) w3 := fun w3 hf3 =>
    (buildPost_known (st := ⟨[], (text.length : Int), 0, []⟩) HM.out (hf12.trans_of hf3 (by simp; omega)) (HS2.out.fr hf3 (by simp; omega) hgx) :)
  exact hfs _ (by repeat (first | refine Fr.setCell ?_ (.inl (by simp)) _ | exact Fr.refl _ _))

set_option maxHeartbeats 4000000 in
set_option maxRecDepth 100000 in
theorem bld_writebyte (hk : o.kind = k_writebyte) (ho : o.Ok) (hlim : len + o.text.length + 4 ≤ 140737488351232) : Calls Tryd.prog 27 #[.pointer (some ⟨b, 0, none⟩), o.val] w (BuildPost W b t o g w) := by
  obtain ⟨kind, text, size, n, char⟩ := o
  simp only at hk
  subst hk
  have hsz : size ≤ 65535 := ho.size
  have hc0 : -2147483648 ≤ char := ho.c0
  have hc1 : char ≤ 2147483647 := ho.c1
  clear ho
  try simp only at hlim
  have HM := Lib.hid (callB_in t ⟨k_writebyte, text, size, n, char⟩ (by simp [bkinds]) _ _ _ (callM_writebyte _ _ rfl))
  try simp only at HM
  have hbl : b < w.heap.size := h.bld.lt
  have hgl : ∀ x, g = some x → x < w.heap.size := h.bld.glt
  have hcap := h.bld.cap_le
  have hlen := h.bld.len_le
  have hlo := h.len
  have HL := Lib.hid fun o1 o2 o3 => Builder_WriteByte _ (((h.bld.alloc o1).alloc o2).alloc o3) (UInt8.ofNat size) (by omega)
  rw [show ((UInt8.ofNat size).toNat : Int) = (size : Int) % 256 by simp] at HL
  have H := Lib.hid h
  clear h
  unfold OpV.val
  go_enter Tryd.func27, Tryd.ntmps27
  go_wp2_with fail
  refine (HL.out _ _ _).mono ?_
  rintro e w2 ⟨g', row', len', rfl, hp⟩
  have hf2 := hp.fr
  obtain ⟨k1, k2⟩ := two_facts hf2 (by simp only [List.mem_cons, Option.mem_toList]; rintro i (rfl | hi); exact hbl; exact hgl i hi)
  have k1c0 : w2.cell? ⟨w.heap.size + 1, 0, none⟩ = some (.string ⟨#[]⟩) := k1.cell 0
  have k1f0 := k1.frozen 0
  have k1c1 : w2.cell? ⟨w.heap.size + 1, 1, none⟩ = some (.int .i64 0) := k1.cell 1
  have k1f1 := k1.frozen 1
  have k1c2 : w2.cell? ⟨w.heap.size + 1, 2, none⟩ = some (.int .i32 0) := k1.cell 2
  have k1f2 := k1.frozen 2
  have k1c3 : w2.cell? ⟨w.heap.size + 1, 3, none⟩ = some (.string ⟨#[]⟩) := k1.cell 3
  have k1f3 := k1.frozen 3
  have k2c0 : w2.cell? ⟨w.heap.size + 1 + 1, 0, none⟩ = some (.string ⟨#[]⟩) := k2.cell 0
  have k2f0 := k2.frozen 0
  have k2c1 : w2.cell? ⟨w.heap.size + 1 + 1, 1, none⟩ = some (.int .i64 0) := k2.cell 1
  have k2f1 := k2.frozen 1
  have k2c2 : w2.cell? ⟨w.heap.size + 1 + 1, 2, none⟩ = some (.int .i32 0) := k2.cell 2
  have k2f2 := k2.frozen 2
  have k2c3 : w2.cell? ⟨w.heap.size + 1 + 1, 3, none⟩ = some (.string ⟨#[]⟩) := k2.cell 3
  have k2f3 := k2.frozen 3
  clear k1 k2
  have hf12 : Fr (b :: g.toList) w w2 := fr_three hf2 (fun i hi => .inl hi)
  have hgx : ∀ x, g' = some x → x ∉ [w.heap.size + 1, w.heap.size + 1 + 1] := fun x e => by
    rcases hp.at_ x e with h1 | h1
    · have := hgl x h1; simp; omega
    · simp at h1; simp; omega
  have hS2 : Bs W w2 b (t ++ [UInt8.ofNat size]) g' row' len' := (((H.out.alloc _).alloc _).alloc _).wrote (by simp; omega) hp
  have HS2 := Lib.hid hS2
  clear hp hS2
  go_wp2_with fail
  refine (told_nil _).mono ?_
  rintro e w3 ⟨rfl, rfl⟩
  go_wp2_with fail
  refine bodyPost_ret (v := .agg #[.string ⟨#[]⟩, .int .i64 0, .int .i32 0, .string ⟨#[]⟩]) (by simp [results, Tryd.results27, go_sem, k1c0, k1c1, k1c2, k1c3]) rfl ?_
  have hfs : ∀ w3, Fr [w.heap.size + 1, w.heap.size + 1 + 1] w2 w3 → BuildPost W b t _ g w (.returned (.agg #[.string ⟨#[]⟩, .int .i64 0, .int .i32 0, .string ⟨#[]⟩])) w3 := fun w3 hf3 =>
    (buildPost_known (st := ⟨[], 0, 0, []⟩) HM.out (hf12.trans_of hf3 (by simp; omega)) (HS2.out.fr hf3 (by simp; omega) hgx) :)
  exact hfs _ (by repeat (first | refine Fr.setCell ?_ (.inl (by simp)) _ | exact Fr.refl _ _))

set_option maxHeartbeats 4000000 in
set_option maxRecDepth 100000 in
theorem bld_writerune (hk : o.kind = k_writerune) (ho : o.Ok) (hlim : len + o.text.length + 4 ≤ 140737488351232) : Calls Tryd.prog 27 #[.pointer (some ⟨b, 0, none⟩), o.val] w (BuildPost W b t o g w) := by
  obtain ⟨kind, text, size, n, char⟩ := o
  simp only at hk
  subst hk
  have hsz : size ≤ 65535 := ho.size
  have hc0 : -2147483648 ≤ char := ho.c0
  have hc1 : char ≤ 2147483647 := ho.c1
  clear ho
  try simp only at hlim
  have HM := Lib.hid (callB_in t ⟨k_writerune, text, size, n, char⟩ (by simp [bkinds]) _ _ _ (callM_writerune _ _ rfl))
  try simp only at HM
  have hbl : b < w.heap.size := h.bld.lt
  have hgl : ∀ x, g = some x → x < w.heap.size := h.bld.glt
  have hcap := h.bld.cap_le
  have hlen := h.bld.len_le
  have hlo := h.len
  have HL := Lib.hid fun o1 o2 o3 => Builder_WriteRune _ (((h.bld.alloc o1).alloc o2).alloc o3) char hc0 hc1 (by omega)
  have H := Lib.hid h
  clear h
  unfold OpV.val
  go_enter Tryd.func27, Tryd.ntmps27
  go_wp2_with fail
  refine (HL.out _ _ _).mono ?_
  rintro e w2 ⟨g', row', len', q, rfl, HQ, hp⟩
  have hf2 := hp.fr
  obtain ⟨k1, k2⟩ := two_facts hf2 (by simp only [List.mem_cons, Option.mem_toList]; rintro i (rfl | hi); exact hbl; exact hgl i hi)
  have k1c0 : w2.cell? ⟨w.heap.size + 1, 0, none⟩ = some (.string ⟨#[]⟩) := k1.cell 0
  have k1f0 := k1.frozen 0
  have k1c1 : w2.cell? ⟨w.heap.size + 1, 1, none⟩ = some (.int .i64 0) := k1.cell 1
  have k1f1 := k1.frozen 1
  have k1c2 : w2.cell? ⟨w.heap.size + 1, 2, none⟩ = some (.int .i32 0) := k1.cell 2
  have k1f2 := k1.frozen 2
  have k1c3 : w2.cell? ⟨w.heap.size + 1, 3, none⟩ = some (.string ⟨#[]⟩) := k1.cell 3
  have k1f3 := k1.frozen 3
  have k2c0 : w2.cell? ⟨w.heap.size + 1 + 1, 0, none⟩ = some (.string ⟨#[]⟩) := k2.cell 0
  have k2f0 := k2.frozen 0
  have k2c1 : w2.cell? ⟨w.heap.size + 1 + 1, 1, none⟩ = some (.int .i64 0) := k2.cell 1
  have k2f1 := k2.frozen 1
  have k2c2 : w2.cell? ⟨w.heap.size + 1 + 1, 2, none⟩ = some (.int .i32 0) := k2.cell 2
  have k2f2 := k2.frozen 2
  have k2c3 : w2.cell? ⟨w.heap.size + 1 + 1, 3, none⟩ = some (.string ⟨#[]⟩) := k2.cell 3
  have k2f3 := k2.frozen 3
  clear k1 k2
  have hf12 : Fr (b :: g.toList) w w2 := fr_three hf2 (fun i hi => .inl hi)
  have hgx : ∀ x, g' = some x → x ∉ [w.heap.size + 1, w.heap.size + 1 + 1] := fun x e => by
    rcases hp.at_ x e with h1 | h1
    · have := hgl x h1; simp; omega
    · simp at h1; simp; omega
  have hS2 : Bs W w2 b (t ++ Lib.encodeRune char) g' row' len' := (((H.out.alloc _).alloc _).alloc _).wrote (by simp; omega) hp
  have HS2 := Lib.hid hS2
  clear hp hS2
  go_wp2_with fail
  refine (told_nil _).mono ?_
  rintro e w3 ⟨rfl, rfl⟩
  go_wp2_with fail
  obtain rfl := HQ.out
  refine bodyPost_ret (v := .agg #[.string ⟨#[]⟩, .int .i64 ((Lib.encodeRune char).length : Int), .int .i32 0, .string ⟨#[]⟩]) (by simp [results, Tryd.results27, go_sem, k1c0, k1c1, k1c2, k1c3]) rfl ?_
  have hfs : ∀ w3, Fr [w.heap.size + 1, w.heap.size + 1 + 1] w2 w3 → BuildPost W b t _ g w (.returned (.agg #[.string ⟨#[]⟩, .int .i64 ((Lib.encodeRune char).length : Int), .int .i32 0, .string ⟨#[]⟩])) w3 := fun w3 hf3 =>
    (buildPost_known (st := ⟨[], ((Lib.encodeRune char).length : Int), 0, []⟩) HM.out (hf12.trans_of hf3 (by simp; omega)) (HS2.out.fr hf3 (by simp; omega) hgx) :)
  exact hfs _ (by repeat (first | refine Fr.setCell ?_ (.inl (by simp)) _ | exact Fr.refl _ _))

set_option maxHeartbeats 4000000 in
set_option maxRecDepth 100000 in
theorem bld_write (hk : o.kind = k_write) (ho : o.Ok) (hlim : len + o.text.length + 4 ≤ 140737488351232) : Calls Tryd.prog 27 #[.pointer (some ⟨b, 0, none⟩), o.val] w (BuildPost W b t o g w) := by
  obtain ⟨kind, text, size, n, char⟩ := o
  simp only at hk
  subst hk
  have hsz : size ≤ 65535 := ho.size
  have hc0 : -2147483648 ≤ char := ho.c0
  have hc1 : char ≤ 2147483647 := ho.c1
  clear ho
  try simp only at hlim
  have HM := Lib.hid (callB_in t ⟨k_write, text, size, n, char⟩ (by simp [bkinds]) _ _ _ (callM_write _ _ rfl))
  try simp only at HM
  have hbl : b < w.heap.size := h.bld.lt
  have hgl : ∀ x, g = some x → x < w.heap.size := h.bld.glt
  have hcap := h.bld.cap_le
  have hlen := h.bld.len_le
  have hlo := h.len
  obtain ⟨pad, cc, w1, hcv, HC, hR, hfc⟩ := run_bytes_row (((w.alloc (.cells #[.string ⟨k_write.toArray⟩, .string ⟨text.toArray⟩, .int .u16 (size : Int), .int .i64 n, .int .i32 char] 59)).alloc (.cells #[.string ⟨#[]⟩, .int .i64 0, .int .i32 0, .string ⟨#[]⟩] 36)).alloc (.cells #[.string ⟨#[]⟩, .int .i64 0, .int .i32 0, .string ⟨#[]⟩] 36)) text (by omega)
  have e3 : ((((w.alloc (.cells #[.string ⟨k_write.toArray⟩, .string ⟨text.toArray⟩, .int .u16 (size : Int), .int .i64 n, .int .i32 char] 59)).alloc (.cells #[.string ⟨#[]⟩, .int .i64 0, .int .i32 0, .string ⟨#[]⟩] 36)).alloc (.cells #[.string ⟨#[]⟩, .int .i64 0, .int .i32 0, .string ⟨#[]⟩] 36))).heap.size = w.heap.size + 1 + 1 + 1 := by simp
  rw [e3] at hcv hR
  have hB1 := ((((h.bld.alloc _).alloc _).alloc _).fr hfc (by simp) (by simp))
  have HL := Lib.hid (Builder_Write w1 hB1 (some ⟨w.heap.size + 1 + 1 + 1, 0, none⟩) text.length cc text ⟨rfl, by have := hR.rd 0 text.length; simpa using this⟩ (by rintro _ ad ⟨⟩; simp; omega) (by omega))
  have HF := Lib.hid hfc
  clear hR hB1 hfc e3
  have H := Lib.hid h
  clear h
  unfold OpV.val
  go_enter Tryd.func27, Tryd.ntmps27
  go_wp2_with fail
  refine (HL.out).mono ?_
  rintro e w2 ⟨g', row', len', rfl, hp⟩
  have hf2 := (HF.out.more (T := b :: g.toList) (by simp)).trans hp.fr
  obtain ⟨k1, k2⟩ := two_facts hf2 (by simp only [List.mem_cons, Option.mem_toList]; rintro i (rfl | hi); exact hbl; exact hgl i hi)
  have k1c0 : w2.cell? ⟨w.heap.size + 1, 0, none⟩ = some (.string ⟨#[]⟩) := k1.cell 0
  have k1f0 := k1.frozen 0
  have k1c1 : w2.cell? ⟨w.heap.size + 1, 1, none⟩ = some (.int .i64 0) := k1.cell 1
  have k1f1 := k1.frozen 1
  have k1c2 : w2.cell? ⟨w.heap.size + 1, 2, none⟩ = some (.int .i32 0) := k1.cell 2
  have k1f2 := k1.frozen 2
  have k1c3 : w2.cell? ⟨w.heap.size + 1, 3, none⟩ = some (.string ⟨#[]⟩) := k1.cell 3
  have k1f3 := k1.frozen 3
  have k2c0 : w2.cell? ⟨w.heap.size + 1 + 1, 0, none⟩ = some (.string ⟨#[]⟩) := k2.cell 0
  have k2f0 := k2.frozen 0
  have k2c1 : w2.cell? ⟨w.heap.size + 1 + 1, 1, none⟩ = some (.int .i64 0) := k2.cell 1
  have k2f1 := k2.frozen 1
  have k2c2 : w2.cell? ⟨w.heap.size + 1 + 1, 2, none⟩ = some (.int .i32 0) := k2.cell 2
  have k2f2 := k2.frozen 2
  have k2c3 : w2.cell? ⟨w.heap.size + 1 + 1, 3, none⟩ = some (.string ⟨#[]⟩) := k2.cell 3
  have k2f3 := k2.frozen 3
  clear k1 k2
  have hf12 : Fr (b :: g.toList) w w2 := fr_three hf2 (fun i hi => .inl hi)
  have hw1 := HF.out.size
  simp at hw1
  have hgx : ∀ x, g' = some x → x ∉ [w.heap.size + 1, w.heap.size + 1 + 1] := fun x e => by
    rcases hp.at_ x e with h1 | h1
    · have := hgl x h1; simp; omega
    · simp; omega
  have hS2 : Bs W w2 b (t ++ text) g' row' len' := Bs.wrote ((((H.out.alloc _).alloc _).alloc _).fr HF.out (by simp) (by simp)) (by omega) hp
  have HS2 := Lib.hid hS2
  clear hp hS2
  go_wp2_with fail
  refine (told_nil _).mono ?_
  rintro e w3 ⟨rfl, rfl⟩
  go_wp2_with fail
  refine bodyPost_ret (v := .agg #[.string ⟨#[]⟩, .int .i64 (text.length : Int), .int .i32 0, .string ⟨#[]⟩]) (by simp [results, Tryd.results27, go_sem, k1c0, k1c1, k1c2, k1c3]) rfl ?_
  have hfs : ∀ w3, Fr [w.heap.size + 1, w.heap.size + 1 + 1] w2 w3 → BuildPost W b t _ g w (.returned (.agg #[.string ⟨#[]⟩, .int .i64 (text.length : Int), .int .i32 0, .string ⟨#[]⟩])) w3 := fun w3 hf3 =>
    (buildPost_known (st := ⟨[], (text.length : Int), 0, []⟩) HM.out (hf12.trans_of hf3 (by simp; omega)) (HS2.out.fr hf3 (by simp; omega) hgx) :)
  exact hfs _ (by repeat (first | refine Fr.setCell ?_ (.inl (by simp)) _ | exact Fr.refl _ _))

set_option maxHeartbeats 4000000 in
set_option maxRecDepth 100000 in
theorem bld_grow_bad (hk : o.kind = k_grow) (hb : o.n < 0) : Calls Tryd.prog 27 #[.pointer (some ⟨b, 0, none⟩), o.val] w (BuildPost W b t o g w) := by
  obtain ⟨kind, text, size, n, char⟩ := o
  simp only at hk
  subst hk
  try simp only at hb
  have HM := Lib.hid (callB_in t ⟨k_grow, text, size, n, char⟩ (by simp [bkinds]) _ _ _ ((callM_grow _ _ rfl).trans (if_pos hb)))
  try simp only at HM
  have hbl : b < w.heap.size := h.bld.lt
  have hgl : ∀ x, g = some x → x < w.heap.size := h.bld.glt
  have hcap := h.bld.cap_le
  have hlen := h.bld.len_le
  have hlo := h.len
  have HL := Lib.hid fun o1 o2 o3 => impl_growBuilder_bad _ (((h.bld.alloc o1).alloc o2).alloc o3) n hb
  have H := Lib.hid h
  clear h
  unfold OpV.val
  go_enter Tryd.func27, Tryd.ntmps27
  go_wp2_with fail
  refine (HL.out _ _ _).mono ?_
  rintro e w2 ⟨rfl, hB2, hf2⟩
  obtain ⟨k1, k2⟩ := two_facts hf2 (by simp; omega)
  have k1c0 : w2.cell? ⟨w.heap.size + 1, 0, none⟩ = some (.string ⟨#[]⟩) := k1.cell 0
  have k1f0 := k1.frozen 0
  have k1c1 : w2.cell? ⟨w.heap.size + 1, 1, none⟩ = some (.int .i64 0) := k1.cell 1
  have k1f1 := k1.frozen 1
  have k1c2 : w2.cell? ⟨w.heap.size + 1, 2, none⟩ = some (.int .i32 0) := k1.cell 2
  have k1f2 := k1.frozen 2
  have k1c3 : w2.cell? ⟨w.heap.size + 1, 3, none⟩ = some (.string ⟨#[]⟩) := k1.cell 3
  have k1f3 := k1.frozen 3
  have k2c0 : w2.cell? ⟨w.heap.size + 1 + 1, 0, none⟩ = some (.string ⟨#[]⟩) := k2.cell 0
  have k2f0 := k2.frozen 0
  have k2c1 : w2.cell? ⟨w.heap.size + 1 + 1, 1, none⟩ = some (.int .i64 0) := k2.cell 1
  have k2f1 := k2.frozen 1
  have k2c2 : w2.cell? ⟨w.heap.size + 1 + 1, 2, none⟩ = some (.int .i32 0) := k2.cell 2
  have k2f2 := k2.frozen 2
  have k2c3 : w2.cell? ⟨w.heap.size + 1 + 1, 3, none⟩ = some (.string ⟨#[]⟩) := k2.cell 3
  have k2f3 := k2.frozen 3
  clear k1 k2
  have hf12 : Fr (b :: g.toList) w w2 := fr_three hf2 (by simp)
  clear hB2
  go_wp2_with fail
  refine bodyPost_ret (v := .agg #[.string ⟨#[]⟩, .int .i64 0, .int .i32 0, .string ⟨#[112, 97, 110, 105, 99]⟩]) (by simp [results, Tryd.results27, go_sem, k1c0, k1c1, k1c2, k1c3]) rfl ?_
  have hfs : ∀ w3, Fr [w.heap.size + 1, w.heap.size + 1 + 1] w2 w3 → BuildPost W b t _ g w (.returned (.agg #[.string ⟨#[]⟩, .int .i64 0, .int .i32 0, .string ⟨#[112, 97, 110, 105, 99]⟩])) w3 := fun w3 hf3 =>
    buildPost_panic HM.out (hf12.trans_of hf3 (by simp; omega))
  exact hfs _ (by repeat (first | refine Fr.setCell ?_ (.inl (by simp)) _ | exact Fr.refl _ _))

set_option maxHeartbeats 4000000 in
set_option maxRecDepth 100000 in
theorem bld_grow_ok (hk : o.kind = k_grow) (hb : ¬ o.n < 0) (hlim : len + o.n ≤ 2097152) : Calls Tryd.prog 27 #[.pointer (some ⟨b, 0, none⟩), o.val] w (BuildPost W b t o g w) := by
  obtain ⟨kind, text, size, n, char⟩ := o
  simp only at hk
  subst hk
  try simp only at hlim
  try simp only at hb
  have HM := Lib.hid (callB_in t ⟨k_grow, text, size, n, char⟩ (by simp [bkinds]) _ _ _ ((callM_grow _ _ rfl).trans (if_neg hb)))
  try simp only at HM
  have hbl : b < w.heap.size := h.bld.lt
  have hgl : ∀ x, g = some x → x < w.heap.size := h.bld.glt
  have hcap := h.bld.cap_le
  have hlen := h.bld.len_le
  have hlo := h.len
  obtain ⟨m, rfl⟩ := Int.eq_ofNat_of_zero_le (show 0 ≤ n by omega)
  have HL := Lib.hid fun o1 o2 o3 => impl_growBuilder_ok _ (((h.bld.alloc o1).alloc o2).alloc o3) m (by omega)
  have H := Lib.hid h
  clear h
  unfold OpV.val
  go_enter Tryd.func27, Tryd.ntmps27
  go_wp2_with fail
  refine (HL.out _ _ _).mono ?_
  rintro e w2 ⟨g', row', rfl, hB2, HR, hf2, hat⟩
  obtain ⟨k1, k2⟩ := two_facts hf2 (by simp; omega)
  have k1c0 : w2.cell? ⟨w.heap.size + 1, 0, none⟩ = some (.string ⟨#[]⟩) := k1.cell 0
  have k1f0 := k1.frozen 0
  have k1c1 : w2.cell? ⟨w.heap.size + 1, 1, none⟩ = some (.int .i64 0) := k1.cell 1
  have k1f1 := k1.frozen 1
  have k1c2 : w2.cell? ⟨w.heap.size + 1, 2, none⟩ = some (.int .i32 0) := k1.cell 2
  have k1f2 := k1.frozen 2
  have k1c3 : w2.cell? ⟨w.heap.size + 1, 3, none⟩ = some (.string ⟨#[]⟩) := k1.cell 3
  have k1f3 := k1.frozen 3
  have k2c0 : w2.cell? ⟨w.heap.size + 1 + 1, 0, none⟩ = some (.string ⟨#[]⟩) := k2.cell 0
  have k2f0 := k2.frozen 0
  have k2c1 : w2.cell? ⟨w.heap.size + 1 + 1, 1, none⟩ = some (.int .i64 0) := k2.cell 1
  have k2f1 := k2.frozen 1
  have k2c2 : w2.cell? ⟨w.heap.size + 1 + 1, 2, none⟩ = some (.int .i32 0) := k2.cell 2
  have k2f2 := k2.frozen 2
  have k2c3 : w2.cell? ⟨w.heap.size + 1 + 1, 3, none⟩ = some (.string ⟨#[]⟩) := k2.cell 3
  have k2f3 := k2.frozen 3
  clear k1 k2
  have hf12 : Fr (b :: g.toList) w w2 := fr_three hf2 (by simp)
  have hgx : ∀ x, g' = some x → x ∉ [w.heap.size + 1, w.heap.size + 1 + 1] := fun x e => by
    rcases hat x e with h1 | h1
    · have := hgl x h1; simp; omega
    · simp at h1; simp; omega
  have hS2 : Bs W w2 b t g' row' len := ⟨hB2, by rw [HR.out.1, H.out.reads], fun x e => by
    rcases hat x e with h1 | h1
    · exact H.out.new_ x h1
    · simp at h1; omega, H.out.b_⟩
  have HS2 := Lib.hid hS2
  clear hB2 hS2 hat hb
  go_wp2_with fail
  refine bodyPost_ret (v := .agg #[.string ⟨#[]⟩, .int .i64 0, .int .i32 0, .string ⟨#[]⟩]) (by simp [results, Tryd.results27, go_sem, k1c0, k1c1, k1c2, k1c3]) rfl ?_
  have hfs : ∀ w3, Fr [w.heap.size + 1, w.heap.size + 1 + 1] w2 w3 → BuildPost W b t _ g w (.returned (.agg #[.string ⟨#[]⟩, .int .i64 0, .int .i32 0, .string ⟨#[]⟩])) w3 := fun w3 hf3 =>
    (buildPost_known (st := ⟨[], 0, 0, []⟩) HM.out (hf12.trans_of hf3 (by simp; omega)) (HS2.out.fr hf3 (by simp; omega) hgx) :)
  exact hfs _ (by repeat (first | refine Fr.setCell ?_ (.inl (by simp)) _ | exact Fr.refl _ _))

set_option maxHeartbeats 4000000 in
set_option maxRecDepth 100000 in
theorem bld_none (hk : o.kind ∉ bkinds) : Calls Tryd.prog 27 #[.pointer (some ⟨b, 0, none⟩), o.val] w (BuildPost W b t o g w) := by
  have HM := Lib.hid (callB_out t o hk)
  obtain ⟨kind, text, size, n, char⟩ := o
  simp only [bkinds, List.mem_cons, List.not_mem_nil, or_false, not_or] at hk
  obtain ⟨q0, q1, q2, q3, q4, q5, q6, q7⟩ := hk
  have b0 : (kind == [119, 114, 105, 116, 101]) = false := by simpa using q0
  have b1 : (kind == [119, 114, 105, 116, 101, 115, 116, 114, 105, 110, 103]) = false := by simpa using q1
  have b2 : (kind == [119, 114, 105, 116, 101, 98, 121, 116, 101]) = false := by simpa using q2
  have b3 : (kind == [119, 114, 105, 116, 101, 114, 117, 110, 101]) = false := by simpa using q3
  have b4 : (kind == [103, 114, 111, 119]) = false := by simpa using q4
  have b5 : (kind == [114, 101, 115, 101, 116]) = false := by simpa using q5
  have b6 : (kind == [108, 101, 110]) = false := by simpa using q6
  have b7 : (kind == [115, 116, 114, 105, 110, 103]) = false := by simpa using q7
  clear q0 q1 q2 q3 q4 q5 q6 q7
  have hbl : b < w.heap.size := h.bld.lt
  have hgl : ∀ x, g = some x → x < w.heap.size := h.bld.glt
  have H := Lib.hid h
  clear h
  unfold OpV.val
  go_enter Tryd.func27, Tryd.ntmps27
  go_wp2_with fail
  refine bodyPost_ret (v := .agg #[.string ⟨#[]⟩, .int .i64 0, .int .i32 0, .string ⟨#[]⟩]) (by simp [results, Tryd.results27, go_sem]) rfl ?_
  have hfs : ∀ w3, Fr [] w w3 → BuildPost W b t _ g w (.returned (.agg #[.string ⟨#[]⟩, .int .i64 0, .int .i32 0, .string ⟨#[]⟩])) w3 := fun w3 hf3 =>
    (buildPost_known (st := ⟨[], 0, 0, []⟩) HM.out (hf3.more (by simp)) (H.out.fr hf3 (by simp) (by simp)) :)
  exact hfs _ (by repeat' first | with_reducible exact Fr.refl _ _ | with_reducible refine Fr.alloc ?_ _ | refine Fr.setCell ?_ (.inr (by simp)) _)

theorem impl_build (ho : o.Ok) (hlim : len + o.text.length + 4 ≤ 1048576) (hg : o.kind = k_grow → o.n ≤ 1048576) : Calls Tryd.prog 27 #[.pointer (some ⟨b, 0, none⟩), o.val] w (BuildPost W b t o g w) := by
  by_cases hk : o.kind ∈ bkinds
  · unfold bkinds at hk
    simp only [List.mem_cons, List.not_mem_nil, or_false] at hk
    rcases hk with e | e | e | e | e | e | e | e
    · exact bld_write w h hWw o e ho (by omega)
    · exact bld_writestring w h hWw o e ho (by omega)
    · exact bld_writebyte w h hWw o e ho (by omega)
    · exact bld_writerune w h hWw o e ho (by omega)
    · by_cases hb : o.n < 0
      · exact bld_grow_bad w h hWw o e hb
      · exact bld_grow_ok w h hWw o e hb (by have := hg e; omega)
    · exact bld_reset w h hWw o e
    · exact bld_len w h hWw o e
    · exact bld_string w h hWw o e
  · exact bld_none w h hWw o hk

end
end Go.Proofs.YtgjaeggpaomoaaaDoor

namespace Go.Proofs.YtgjaeggpaomoaaaDoor
open Go.RowKit
set_option linter.unusedVariables false
attribute [local go_sem ↓] Go.wp_at_zero Go.wp_at_succ

/-- What a script's calls on a builder return. -/
def runB (t : List UInt8) : List OpV → List StV
  | [] => []
  | o :: r => (callB t o).2 :: (if (callB t o).2.err = e_panic then [] else runB (callB t o).1 r)
theorem runB_next (t : List UInt8) (ops : List OpV) (k : Nat) (o : OpV) (h : ops[k]? = some o) (hp : (callB t o).2.err ≠ e_panic) : runB t (ops.drop k) = (callB t o).2 :: runB (callB t o).1 (ops.drop (k + 1)) := by
  have hd : ops.drop k = o :: ops.drop (k + 1) := by
    obtain ⟨hlt, rfl⟩ := List.getElem?_eq_some_iff.1 h
    exact List.drop_eq_getElem_cons hlt
  rw [hd]
  simp [runB, hp]
theorem runB_panic (t : List UInt8) (ops : List OpV) (k : Nat) (o : OpV) (h : ops[k]? = some o) (hp : (callB t o).2.err = e_panic) : runB t (ops.drop k) = [(callB t o).2] := by
  have hd : ops.drop k = o :: ops.drop (k + 1) := by
    obtain ⟨hlt, rfl⟩ := List.getElem?_eq_some_iff.1 h
    exact List.drop_eq_getElem_cons hlt
  rw [hd]
  simp [runB, hp]
theorem callB_le (t : List UInt8) (o : OpV) : (callB t o).1.length ≤ t.length + o.text.length + 4 := by
  unfold callB
  split
  · rename_i h
    unfold bkinds at h
    simp only [List.mem_cons, List.not_mem_nil, or_false] at h
    rcases h with e | e | e | e | e | e | e | e
    · rw [callM_write _ _ e]; simp only [wr_text', List.length_append, sta0]; omega
    · rw [callM_writestring _ _ e]; simp only [wr_text', List.length_append, sta0]; omega
    · rw [callM_writebyte _ _ e]; simp only [wr_text', List.length_append, sta0, List.length_cons, List.length_nil]; omega
    · rw [callM_writerune _ _ e]; have := rune_len o.char; simp only [wr_text', List.length_append, sta0]; omega
    · rw [callM_grow _ _ e]; split <;> (simp only [sta0, Sta.oth]; omega)
    · rw [callM_reset _ _ e]; exact Nat.zero_le _
    · rw [callM_len _ _ e]; simp only [sta0]; omega
    · rw [callM_string _ _ e]; simp only [sta0]; omega
  · simp only; omega
/-- A script of builders' calls alone: as on a buffer. -/
theorem runB_text : ∀ (ops : List OpV) (t : List UInt8), (∀ o ∈ ops, o.kind ∈ bkinds) → runB t ops = runT t ops
  | [], t, _ => rfl
  | o :: r, t, h => by
    have e : callB t o = (nextT t o, stepT t o) := by
      unfold callB
      rw [if_pos (h o (by simp))]
      rfl
    have ih := runB_text r (nextT t o) (fun x hx => h x (by simp [hx]))
    simp only [runB, runT, e, ih]

/-- The loop of RunBuilder. -/
def RunLRel (w : World) (ops : List OpV) (v i : Value) (wr : World) : Prop :=
  ∃ k t sts g row len, k ≤ ops.length ∧ i = .int .i64 (k : Int) ∧ wr.ownsRow w.heap.size 36 4 v k (sts.flatMap StV.cells) ∧ Hid (sts.length = k) ∧ Bs w.heap.size wr w.heap.size t g row len ∧ Hid (len ≤ tsum (ops.take k)) ∧ Hid (runB [] ops = sts ++ runB t (ops.drop k)) ∧ Fr [] w wr
theorem Bs.own_ne {W : Nat} {wr : World} {b : Nat} {s : List UInt8} {g : Option Nat} {row : List UInt8} {len base : Nat} {e : TypeId} {size n : Nat} {v : Value} {xs : List Value} (h : Bs W wr b s g row len) (ho : wr.ownsRow base e size v n xs) (he : e ≠ 62) (he5 : e ≠ 5) : ∀ y, v.ownBlock = some y → y ∉ b :: g.toList := h.bld.own_ne ho he he5
theorem Bs.app {W : Nat} {w2 w' : World} {b : Nat} {s : List UInt8} {g : Option Nat} {row : List UInt8} {len base : Nat} {e : TypeId} {size n : Nat} {v : Value} {xs : List Value} {o : Obj} (h : Bs W w2 b s g row len) (ho : w2.ownsRow base e size v n xs) (hg : (w2.alloc o).grownBy w' v.ownBlock) (he : e ≠ 62) (he5 : e ≠ 5) : Bs W w' b s g row len :=
  ⟨h.bld.app ho hg he he5, h.reads, h.new_, h.b_⟩

set_option maxHeartbeats 4000000 in
set_option maxRecDepth 100000 in
theorem impl_RunBuilder (A : Option Addr) (n c0 : Nat) (ops : List OpV) (w : World) (hS : Rg w A n 5 (ops.flatMap OpV.cells)) (hn : n = ops.length) (hN : tsum ops + n ≤ 1048576) (hok : ∀ o ∈ ops, o.Ok ∧ (o.kind = k_grow → o.n ≤ 1048576)) :
    Calls Tryd.prog 14 #[.slice A n c0] w fun e w' => ∃ (B : Option Addr) (m d : Nat) (sts : List StV), e = .returned (.slice B m d) ∧ Rs w' B m 4 (sts.flatMap StV.cells) ∧ m = sts.length ∧ m ≤ n ∧ Hid (sts = runB [] ops) ∧ Fr [] w w' := by
  have HN := Lib.hid hn
  have HOK := Lib.hid hok
  clear hn hok
  go_enter Tryd.func14, Tryd.ntmps14
  go_wp2_with fail
  go_loopw [4, 12] (fun v i wr => RunLRel w ops v i wr) (fun _ i _ => n - (intOf i).toNat)
  case atStart =>
    refine ⟨0, [], [], _, _, _, Nat.zero_le _, rfl, by have := own_empty_from (w.alloc (.cells #[.pointer none, .slice none 0 0] 62)) w.heap.size 36 4 (by simp); simpa using this, rfl, (Bs.made w).alloc _, ?_, by show _ = _; simp, ((Fr.refl [] w).alloc _).alloc _⟩
    exact Nat.zero_le _
  case round =>
    obtain ⟨k, t, sts, g, row, len, hk, rfl, ho, HL, hB, HLE, HST, hf1⟩ := hrel
    obtain ⟨A', c', rfl⟩ := own_form ho
    by_cases hlt : k < n
    · obtain ⟨o, hox⟩ : ∃ o, ops[k]? = some o := ⟨_, List.getElem?_eq_getElem (by have := HN.out; omega)⟩
      obtain ⟨ad, rfl, cg0, cg⟩ := (hS.fr_old hf1 (by simp)).get (by omega)
      have g5 := fun j h => recs_get OpV.cells 5 (fun _ => rfl) ops k j o hox h
      have x0 := cg0 _ _ ((g5 0 (by omega)).trans rfl)
      have x1 := cg _ 0 _ ((g5 1 (by omega)).trans rfl)
      have x2 := cg _ 1 _ ((g5 2 (by omega)).trans rfl)
      have x3 := cg _ 2 _ ((g5 3 (by omega)).trans rfl)
      have x4 := cg _ 3 _ ((g5 4 (by omega)).trans rfl)
      simp only [Nat.add_zero, Nat.zero_add, Nat.reduceAdd] at x0 x1 x2 x3 x4
      have ht := tsum_le ops k o hox
      have hle := HLE.out
      obtain ⟨ok1, ok2⟩ := HOK.out o (List.mem_of_getElem? hox)
      have hcall := Lib.hid fun ob => impl_build (wr.alloc ob) (hB.alloc ob) (by have := hf1.size; simp; omega) o ok1 (by omega) ok2
      have HB := Lib.hid hB
      have hne := hB.own_ne ho (by decide) (by decide)
      have HOX := Lib.hid hox
      have HT := Lib.hid ht
      clear cg0 cg g5 ok1 ok2 hox hB ht hle
      unfold OpV.val at hcall
      go_wp2_with fail
      refine (hcall.out _).mono ?_
      rintro e w2 ⟨st, rfl, HS2, hf2, HS3⟩
      have hf02 : Fr (w.heap.size :: g.toList) wr w2 := ((Fr.refl _ wr).alloc _).trans hf2
      have hfw : Fr [] w w2 := Fr.bs HB.out hf1 rfl hf02 (fun _ h => h)
      have ho2 := hf02.own ho hne
      have hsz : w.heap.size ≤ w2.heap.size := hfw.size
      obtain ⟨v', w', hrun, ho', hg', hb'⟩ := run_app (P := Tryd.prog) ((w2.alloc (.cells #[.string ⟨st.text.toArray⟩, .int .i64 st.n, .int .i32 st.char, .string ⟨st.err.toArray⟩] 36)).alloc (.cells #[.string ⟨st.text.toArray⟩, .int .i64 st.n, .int .i32 st.char, .string ⟨st.err.toArray⟩] 36)) w.heap.size 32 32 32 36 _ 4 48 Tryd.underlying32 infoS rfl (by decide) _ _ _ ((ho2.alloc _).alloc _) _ 1 _
        (src_blk (w2.alloc (.cells #[.string ⟨st.text.toArray⟩, .int .i64 st.n, .int .i32 st.char, .string ⟨st.err.toArray⟩] 36)) #[.string ⟨st.text.toArray⟩, .int .i64 st.n, .int .i32 st.char, .string ⟨st.err.toArray⟩] 36 36 32 Tryd.underlying32 4 rfl (by simp [Value.oneCell']) 1) (by omega) (by omega) (by simp; omega)
      rw [show (w2.alloc (.cells #[.string ⟨st.text.toArray⟩, .int .i64 st.n, .int .i32 st.char, .string ⟨st.err.toArray⟩] 36)).heap.size = w2.heap.size + 1 by simp] at hrun
      have hk9 := ((Blk.new w2 36 #[.string ⟨st.text.toArray⟩, .int .i64 st.n, .int .i32 st.char, .string ⟨st.err.toArray⟩]).alloc (.cells #[.string ⟨st.text.toArray⟩, .int .i64 st.n, .int .i32 st.char, .string ⟨st.err.toArray⟩] 36)).fr (Fr.of_grown hg') (by simp only [Option.mem_toList]; intro hm; have := (ho2.lt _ hm).2; omega)
      have hc9 : w'.cell? ⟨w2.heap.size, 3, none⟩ = some (.string ⟨st.err.toArray⟩) := hk9.cell 3
      have hfr' : Fr [] w w' := ((hfw.alloc _).alloc _).grown hg' (fun y hy => .inr ((ho2.lt y hy).1))
      obtain ⟨A2, c2, rfl⟩ := own_form ho'
      have ho3 : w'.ownsRow w.heap.size 36 4 (.slice A2 (k + 1) c2) (k + 1) ((sts ++ [st]).flatMap StV.cells) := by rw [recs_snoc]; exact ho'
      have HO3 := Lib.hid ho3
      have HO2 := Lib.hid ho2
      clear hk9 ho' ho3 ho2 hb'
      by_cases hp : st.err = e_panic
      · have hpb : (st.err == [112, 97, 110, 105, 99]) = true := by rw [hp]; rfl
        have HP := Lib.hid hp
        clear hp
        go_wp2_with (at_builtin; refine wpList_append_run rfl _ _ _ _ rfl rfl rfl hrun ?_)
        go_ret
        have hd : sts ++ [st] = runB [] ops := by
          rw [HST.out, runB_panic t ops k o HOX.out (by rw [← HS2.out]; exact HP.out), ← HS2.out]
        exact ⟨_, _, _, sts ++ [st], rfl, own_rs HO3.out, by simp [HL.out], by omega, hd, hfr'⟩
      · have hpb : (st.err == [112, 97, 110, 105, 99]) = false := by simpa using hp
        have HP := Lib.hid hp
        clear hp
        go_wp2_with (at_builtin; refine wpList_append_run rfl _ _ _ _ rfl rfl rfl hrun ?_)
        go_roundw
        case rel =>
          rcases HS3.out with h1 | ⟨g', row', len', h1⟩
          · exact absurd h1 HP.out
          · refine ⟨k + 1, (callB t o).1, sts ++ [st], g', row', len', by have := HN.out; omega, by go_num, HO3.out, by show _ = _; simp [HL.out], (h1.alloc _).app (HO2.out.alloc _) hg' (by decide) (by decide), ?_, ?_, hfr'⟩
            · show _ ≤ _
              have e1 := h1.len
              have e2 := callB_le t o
              have e3 := HB.out.len
              have := HLE.out
              rw [tsum_take ops k o HOX.out]
              omega
            · show _ = _
              rw [HST.out, runB_next t ops k o HOX.out (by rw [← HS2.out]; exact HP.out), ← HS2.out]
              simp
        case measure => simp [intOf]; omega
    · go_wp2_with fail
      go_ret
      have hkn : k = n := by have := HN.out; omega
      subst hkn
      have hd : sts = runB [] ops := by
        have h1 := HST.out
        rw [List.drop_eq_nil_of_le (by have := HN.out; omega)] at h1
        simpa [runB] using h1.symm
      exact ⟨_, _, _, sts, rfl, own_rs ho, HL.out.symm, Nat.le_refl _, hd, hf1⟩

end Go.Proofs.YtgjaeggpaomoaaaDoor
