/- A script's calls on a buffer (third part). -/
import Derived.Test.YtgjaeggpaomoaaaDoorCall2
import Derived.Test.YtgjaeggpaomoaaaDoorBufRune
import Derived.Test.YtgjaeggpaomoaaaDoorBufGrow
import Derived.Test.YtgjaeggpaomoaaaDoorGrowL
import Derived.Test.YtgjaeggpaomoaaaDoorTrunc
import Derived.Test.YtgjaeggpaomoaaaDoorLawZ
import Derived.Test.YtgjaeggpaomoaaaDoorLawG
import Derived.Deep.RegionWith
namespace Go.Proofs.YtgjaeggpaomoaaaDoor
open Go.RowKit
set_option linter.unusedVariables false
set_option linter.unusedSectionVars false
attribute [local go_sem ↓] Go.wp_at_zero Go.wp_at_succ

theorem lines_post {W b : Nat} {s : Sta} {o : OpV} {g : Option Nat} {row : List UInt8} {len off off' : Nat} {lr : Int} {w w2 w3 : World} {x : List UInt8} {eo : Bool} {S : List Nat}
    (hM : callM s o = (if misses s.text (UInt8.ofNat o.size) then (⟨[], 5, [], true⟩, ⟨s.text, 0, 0, e_end⟩, true) else (s.rd (s.text.idxOf (UInt8.ofNat o.size) + 1) 1, ⟨line s.text (UInt8.ofNat o.size), 0, 0, []⟩, true)))
    (hf : Fr (b :: g.toList) w w3) (h : Scr W w b s g row len off lr) (hB : Buf w2 b g row len off' (-1)) (hx : x = line s.text (UInt8.ofNat o.size)) (he : eo = misses s.text (UInt8.ofNat o.size)) (hr : unread row len off' = rest s.text (UInt8.ofNat o.size)) (hf3 : Fr S w2 w3) (hb : b ∉ S) (hg : ∀ x, g = some x → x ∉ S) :
    CallPost W b s o g len w (.returned (.agg #[.string ⟨x.toArray⟩, .int .i64 0, .int .i32 0, .string ⟨(eword eo).toArray⟩])) w3 := by
  have hl := h.bw.len_
  have hlen := h.bw.buf.len_le
  by_cases hm : misses s.text (UInt8.ofNat o.size) = true
  · rw [if_pos hm] at hM
    rw [hm] at he
    subst he
    have hidx : s.text.length ≤ s.text.idxOf (UInt8.ofNat o.size) := by simpa [misses] using hm
    have hx2 : x = s.text := by rw [hx, line, List.take_of_length_le (by omega)]
    have hr2 : unread row len off' = [] := by rw [hr, rest, List.drop_eq_nil_of_le (by omega)]
    subst hx2
    exact callPost_known (st := ⟨s.text, 0, 0, e_end⟩) hM hf (Scr.fr ⟨h.bw.same hB hr2, by simp [RecOk]⟩ hf3 hb hg) (by omega)
  · rw [if_neg hm] at hM
    have he2 : eo = false := by rw [he]; simpa using hm
    subst he2
    have hidx : s.text.idxOf (UInt8.ofNat o.size) < s.text.length := by simpa [misses] using hm
    have hol := h.bw.buf.off_le
    have hol2 := hB.off_le
    have hu : len - off' = s.text.length - (s.text.idxOf (UInt8.ofNat o.size) + 1) := by
      have := congrArg List.length hr
      rw [unread_length hB.len_le, rest, List.length_drop] at this
      exact this
    have hoff : off' = off + (s.text.idxOf (UInt8.ofNat o.size) + 1) := by omega
    have hrec := RecOk.rd1 s row len off (s.text.idxOf (UInt8.ofNat o.size) + 1) h.bw.reads (by omega) (by omega)
    rw [← hoff, if_neg (by omega)] at hrec
    subst hx
    exact callPost_known (st := ⟨line s.text (UInt8.ofNat o.size), 0, 0, []⟩) hM hf (Scr.fr ⟨h.bw.same hB (by rw [rd_text, hr]; rfl), hrec⟩ hf3 hb hg) (by omega)

section
variable {b : Nat} {g : Option Nat} {row : List UInt8} {len off : Nat} {lr : Int} (w : World) (h : Buf w b g row len off lr)
include h
theorem Buffer_PeekS (n : Nat) (a : Addr) (hE : Eof w a) : Calls Tryd.prog 52 #[.pointer (some ⟨b, 0, none⟩), .int .i64 (n : Int)] w fun e w' => ∃ A m c, e = .returned (.tuple #[.slice A m c, ev a (decide (len - off < n))]) ∧ Sl w' A m ((unread row len off).take n) ∧ ∃ k, w' = w.drewN k := by
  by_cases hn : len - off < n
  · refine (Buffer_Peek_eof w h a hE n hn).mono ?_
    rintro e w' ⟨A, m, c, rfl, hS, _, hw⟩
    refine ⟨A, m, c, by rw [decide_eq_true hn]; rfl, ?_, hw⟩
    rw [List.take_of_length_le (by rw [unread_length h.len_le]; omega)]
    exact hS
  · refine (Buffer_Peek_ok w h n (by omega)).mono ?_
    rintro e w' ⟨A, m, c, rfl, hS, _, hw⟩
    exact ⟨A, m, c, by rw [decide_eq_false hn]; rfl, hS, hw⟩
end
theorem two_facts2 {w w2 : World} {S : List Nat} {o1 : Obj} (hf : Fr S (((w.alloc o1).alloc (.cells #[.string ⟨#[]⟩, .int .i64 0, .int .i32 0, .string ⟨#[]⟩] 36)).alloc (.cells #[.string ⟨#[]⟩, .int .i64 0, .int .i32 0, .string ⟨#[]⟩] 36)) w2) (hS : ∀ i ∈ S, i ≠ w.heap.size + 1 ∧ i ≠ w.heap.size + 1 + 1) :
    Blk w2 (w.heap.size + 1) 36 #[.string ⟨#[]⟩, .int .i64 0, .int .i32 0, .string ⟨#[]⟩] ∧ Blk w2 (w.heap.size + 1 + 1) 36 #[.string ⟨#[]⟩, .int .i64 0, .int .i32 0, .string ⟨#[]⟩] := by
  have h1 := ((Blk.new (w.alloc o1) 36 #[.string ⟨#[]⟩, .int .i64 0, .int .i32 0, .string ⟨#[]⟩]).alloc (.cells #[.string ⟨#[]⟩, .int .i64 0, .int .i32 0, .string ⟨#[]⟩] 36)).fr hf (fun hs => by have := hS _ hs; simp at this)
  have h2 := (Blk.new ((w.alloc o1).alloc (.cells #[.string ⟨#[]⟩, .int .i64 0, .int .i32 0, .string ⟨#[]⟩] 36)) 36 #[.string ⟨#[]⟩, .int .i64 0, .int .i32 0, .string ⟨#[]⟩]).fr hf (fun hs => by have := hS _ hs; simp at this)
  exact ⟨by simpa using h1, by simpa using h2⟩
theorem read_post {W b : Nat} {s : Sta} {o : OpV} {g : Option Nat} {row : List UInt8} {len off len' off' m : Nat} {lr lr' : Int} {w w2 w3 : World} {x : List UInt8} {eo : Bool} {S : List Nat}
    (hM : callM s o = (s.rd (min o.size s.text.length) 1, ⟨s.text.take o.size, min o.size s.text.length, 0, if s.text = [] ∧ 0 < o.size then e_end else []⟩, true))
    (hf : Fr (b :: g.toList) w w3) (h : Scr W w b s g row len off lr) (hB : Buf w2 b g row len' off' lr')
    (hA : x = s.text.take o.size ∧ eo = (s.text.isEmpty && decide (0 < o.size)) ∧ unread row len' off' = s.text.drop o.size ∧ (len = off → len' = 0 ∧ off' = 0 ∧ lr' = 0) ∧ (off < len → len' = len ∧ off' = off + m ∧ lr' = if m = 0 then 0 else -1) ∧ m = min s.text.length o.size) (hf3 : Fr S w2 w3) (hb : b ∉ S) (hg : ∀ x, g = some x → x ∉ S) :
    CallPost W b s o g len w (.returned (.agg #[.string ⟨x.toArray⟩, .int .i64 (m : Int), .int .i32 0, .string ⟨(eword eo).toArray⟩])) w3 := by
  obtain ⟨rfl, he, hr, h0, h1, hm⟩ := hA
  have hl := h.bw.len_
  have hol := h.bw.buf.off_le
  have hst : callM s o = (s.rd m 1, ⟨s.text.take o.size, (m : Int), 0, eword eo⟩, true) := by
    rw [hM, hm, Nat.min_comm]
    congr 2
    · congr 1
      · omega
      · rw [he, eword]
        by_cases ht : s.text = []
        · simp [ht]
        · simp [ht]
  have hu : unread row len' off' = (s.rd m 1).text := by
    rw [rd_text, hr, hm]
    by_cases hle : s.text.length ≤ o.size
    · rw [List.drop_eq_nil_of_le hle, List.drop_eq_nil_of_le (by omega)]
    · rw [show min s.text.length o.size = o.size by omega]
  have hrec : RecOk (s.rd m 1) row off' lr' ∧ len' ≤ len := by
    by_cases hz : len = off
    · obtain ⟨rfl, rfl, rfl⟩ := h0 hz
      have : m = 0 := by omega
      subst this
      exact ⟨by simp [RecOk, Sta.rd], Nat.zero_le _⟩
    · obtain ⟨rfl, rfl, rfl⟩ := h1 (by omega)
      exact ⟨RecOk.rd1 s row len' off m h.bw.reads (by omega) (by omega), Nat.le_refl _⟩
  exact callPost_known (st := ⟨s.text.take o.size, (m : Int), 0, eword eo⟩) hst hf (Scr.fr ⟨h.bw.same hB hu, hrec.1⟩ hf3 hb hg) (by omega)

section
variable {W b : Nat} {s : Sta} {g : Option Nat} {row : List UInt8} {len off : Nat} {lr : Int} (w : World) (h : Scr W w b s g row len off lr) (hWw : W ≤ w.heap.size) (o : OpV)
include h hWw

set_option maxHeartbeats 4000000 in
set_option maxRecDepth 100000 in
theorem call_readstring (hk : o.kind = k_readstring) (a c : Addr) (hV : Env W w a c) (ho : o.Ok) : Calls Tryd.prog 29 #[.pointer (some ⟨b, 0, none⟩), o.val] w (CallPost W b s o g len w) := by
  obtain ⟨kind, text, size, n, char⟩ := o
  simp only at hk
  subst hk
  have HM := Lib.hid (callM_readstring s ⟨k_readstring, text, size, n, char⟩ rfl)
  try simp only at HM
  have hsz : size ≤ 65535 := ho.size
  have hc0 : -2147483648 ≤ char := ho.c0
  have hc1 : char ≤ 2147483647 := ho.c1
  clear ho
  have hbl : b < w.heap.size := h.bw.buf.blk.lt
  have hgl : ∀ x, g = some x → x < w.heap.size := fun x e => (h.bw.buf.some_ x e).2.lt
  have hcap := h.bw.buf.cap_le
  have hlen := h.bw.buf.len_le
  have hlo := h.bw.len_
  have hlr4 := h.rec_.le4
  have hlow := hV.low
  have hWb := h.bw.b_
  have hEo := fun o1 o2 o3 => hV.eof.fr_old ((((Fr.refl [] w).alloc o1).alloc o2).alloc o3) (by simp)
  have hTo := fun o1 o2 o3 => hV.tabs.fr_old ((((Fr.refl [] w).alloc o1).alloc o2).alloc o3) (by simp)
  have hUo := fun o1 o2 o3 => hV.unr.fr_old ((((Fr.refl [] w).alloc o1).alloc o2).alloc o3) (by simp)
  have HV := Lib.hid hV
  have HL := Lib.hid fun o1 o2 o3 => Buffer_ReadString _ (((h.bw.buf.alloc o1).alloc o2).alloc o3) (UInt8.ofNat size) a (hEo o1 o2 o3)
  rw [h.bw.reads] at HL
  rw [show ((UInt8.ofNat size).toNat : Int) = (size : Int) % 256 by simp] at HL
  clear hEo hTo hUo hV
  have H := Lib.hid h
  clear h
  unfold OpV.val
  go_enter Tryd.func29, Tryd.ntmps29
  go_wp2_with fail
  refine (HL.out _ _ _).mono ?_
  rintro e w2 ⟨x, off', eo, rfl, HA, hB2, hf2⟩
  obtain ⟨k1, k2⟩ := two_facts hf2 (by simp; omega)
  have k1c0 : w2.cell? ⟨w.heap.size + 1, 0, none⟩ = some (.string ⟨#[]⟩) := k1.cell 0
  have k1f0 := k1.frozen 0
  have k1c1 : w2.cell? ⟨w.heap.size + 1, 1, none⟩ = some (.int .i64 0) := k1.cell 1
  have k1f1 := k1.frozen 1
  have k1c2 : w2.cell? ⟨w.heap.size + 1, 2, none⟩ = some (.int .i32 0) := k1.cell 2
  have k1f2 := k1.frozen 2
  have k1c3 : w2.cell? ⟨w.heap.size + 1, 3, none⟩ = some (.string ⟨#[]⟩) := k1.cell 3
  have k1f3 := k1.frozen 3
  have k2c0 : w2.cell? ⟨w.heap.size + 1 + 1, 0, none⟩ = some (.string ⟨#[]⟩) := k2.cell 0
  have k2f0 := k2.frozen 0
  have k2c1 : w2.cell? ⟨w.heap.size + 1 + 1, 1, none⟩ = some (.int .i64 0) := k2.cell 1
  have k2f1 := k2.frozen 1
  have k2c2 : w2.cell? ⟨w.heap.size + 1 + 1, 2, none⟩ = some (.int .i32 0) := k2.cell 2
  have k2f2 := k2.frozen 2
  have k2c3 : w2.cell? ⟨w.heap.size + 1 + 1, 3, none⟩ = some (.string ⟨#[]⟩) := k2.cell 3
  have k2f3 := k2.frozen 3
  clear k1 k2
  have hf12 : Fr (b :: g.toList) w w2 := fr_three hf2 (by simp)
  have hE2 : Eof w2 a := HV.out.eof.fr hf12 (by simp only [List.mem_cons, Option.mem_toList]; rintro (rfl | hi); omega; have := H.out.bw.new_ _ hi; omega)
  have HT := Lib.hid (told_ev w2 a hE2 eo)
  have HB2 := Lib.hid hB2
  clear hB2 hE2
  go_wp2_with fail
  refine HT.out.mono ?_
  rintro e w3 ⟨rfl, rfl⟩
  go_wp2_with fail
  refine bodyPost_ret (v := .agg #[.string ⟨x.toArray⟩, .int .i64 0, .int .i32 0, .string ⟨(eword eo).toArray⟩]) (by simp [results, Tryd.results29, go_sem, k1c0, k1c1, k1c2, k1c3]) rfl ?_
  have hfs : ∀ w3, Fr [w.heap.size + 1, w.heap.size + 1 + 1] w2 w3 → CallPost W b s _ g len w (.returned (.agg #[.string ⟨x.toArray⟩, .int .i64 0, .int .i32 0, .string ⟨(eword eo).toArray⟩])) w3 := fun w3 hf3 =>
    lines_post HM.out (hf12.trans_of hf3 (by simp; omega)) H.out HB2.out HA.out.1 HA.out.2.1 HA.out.2.2 hf3 (by simp; omega) (fun x e => by have := hgl x e; simp; omega)
  exact hfs _ (by repeat (first | refine Fr.setCell ?_ (.inl (by simp)) _ | exact Fr.refl _ _))

set_option maxHeartbeats 4000000 in
set_option maxRecDepth 100000 in
theorem call_readbytes (hk : o.kind = k_readbytes) (a c : Addr) (hV : Env W w a c) (ho : o.Ok) (hlim : s.text.length ≤ 1048576) : Calls Tryd.prog 29 #[.pointer (some ⟨b, 0, none⟩), o.val] w (CallPost W b s o g len w) := by
  obtain ⟨kind, text, size, n, char⟩ := o
  simp only at hk
  subst hk
  have HM := Lib.hid (callM_readbytes s ⟨k_readbytes, text, size, n, char⟩ rfl)
  try simp only at HM
  have hsz : size ≤ 65535 := ho.size
  have hc0 : -2147483648 ≤ char := ho.c0
  have hc1 : char ≤ 2147483647 := ho.c1
  clear ho
  try simp only at hlim
  have hbl : b < w.heap.size := h.bw.buf.blk.lt
  have hgl : ∀ x, g = some x → x < w.heap.size := fun x e => (h.bw.buf.some_ x e).2.lt
  have hcap := h.bw.buf.cap_le
  have hlen := h.bw.buf.len_le
  have hlo := h.bw.len_
  have hlr4 := h.rec_.le4
  have hlow := hV.low
  have hWb := h.bw.b_
  have hEo := fun o1 o2 o3 => hV.eof.fr_old ((((Fr.refl [] w).alloc o1).alloc o2).alloc o3) (by simp)
  have hTo := fun o1 o2 o3 => hV.tabs.fr_old ((((Fr.refl [] w).alloc o1).alloc o2).alloc o3) (by simp)
  have hUo := fun o1 o2 o3 => hV.unr.fr_old ((((Fr.refl [] w).alloc o1).alloc o2).alloc o3) (by simp)
  have HV := Lib.hid hV
  have HL := Lib.hid fun o1 o2 o3 => Buffer_ReadBytes _ (((h.bw.buf.alloc o1).alloc o2).alloc o3) (UInt8.ofNat size) a (hEo o1 o2 o3) (by omega)
  rw [h.bw.reads] at HL
  rw [show ((UInt8.ofNat size).toNat : Int) = (size : Int) % 256 by simp] at HL
  clear hEo hTo hUo hV
  have H := Lib.hid h
  clear h
  unfold OpV.val
  go_enter Tryd.func29, Tryd.ntmps29
  go_wp2_with fail
  refine (HL.out _ _ _).mono ?_
  rintro e w2 ⟨A, m, c0, x, off', eo, rfl, hSl, HA, hB2, hf2⟩
  obtain ⟨k1, k2⟩ := two_facts hf2 (by simp; omega)
  have k1c0 : w2.cell? ⟨w.heap.size + 1, 0, none⟩ = some (.string ⟨#[]⟩) := k1.cell 0
  have k1f0 := k1.frozen 0
  have k1c1 : w2.cell? ⟨w.heap.size + 1, 1, none⟩ = some (.int .i64 0) := k1.cell 1
  have k1f1 := k1.frozen 1
  have k1c2 : w2.cell? ⟨w.heap.size + 1, 2, none⟩ = some (.int .i32 0) := k1.cell 2
  have k1f2 := k1.frozen 2
  have k1c3 : w2.cell? ⟨w.heap.size + 1, 3, none⟩ = some (.string ⟨#[]⟩) := k1.cell 3
  have k1f3 := k1.frozen 3
  have k2c0 : w2.cell? ⟨w.heap.size + 1 + 1, 0, none⟩ = some (.string ⟨#[]⟩) := k2.cell 0
  have k2f0 := k2.frozen 0
  have k2c1 : w2.cell? ⟨w.heap.size + 1 + 1, 1, none⟩ = some (.int .i64 0) := k2.cell 1
  have k2f1 := k2.frozen 1
  have k2c2 : w2.cell? ⟨w.heap.size + 1 + 1, 2, none⟩ = some (.int .i32 0) := k2.cell 2
  have k2f2 := k2.frozen 2
  have k2c3 : w2.cell? ⟨w.heap.size + 1 + 1, 3, none⟩ = some (.string ⟨#[]⟩) := k2.cell 3
  have k2f3 := k2.frozen 3
  clear k1 k2
  have hf12 : Fr (b :: g.toList) w w2 := fr_three hf2 (by simp)
  have hE2 : Eof w2 a := HV.out.eof.fr hf12 (by simp only [List.mem_cons, Option.mem_toList]; rintro (rfl | hi); omega; have := H.out.bw.new_ _ hi; omega)
  have HT := Lib.hid (told_ev w2.drew a hE2 eo)
  have HB2 := Lib.hid hB2
  have hst := run_string_sl (P := Tryd.prog) (hSl.fr (Fr.refl [] w2).drew (by simp)) 22 9 5 c0 Tryd.underlying22 Tryd.underlying5 Tryd.underlying9
  clear hB2 hE2 hSl
  go_wp2_with fail
  go_region_with ((go_at_call 39; ((with_reducible refine HT.out.mono ?_); rintro e w3 ⟨rfl, rfl⟩)))
  all_goals
    go_wp2_with fail
    refine bodyPost_ret (v := .agg #[.string ⟨x.toArray⟩, .int .i64 0, .int .i32 0, .string ⟨(eword eo).toArray⟩]) (by simp [results, Tryd.results29, go_sem, k1c0, k1c1, k1c2, k1c3]) rfl ?_
    have hfs : ∀ w3, Fr [w.heap.size + 1, w.heap.size + 1 + 1] w2 w3 → CallPost W b s _ g len w (.returned (.agg #[.string ⟨x.toArray⟩, .int .i64 0, .int .i32 0, .string ⟨(eword eo).toArray⟩])) w3 := fun w3 hf3 =>
      lines_post HM.out (hf12.trans_of hf3 (by simp; omega)) H.out HB2.out HA.out.1 HA.out.2.1 HA.out.2.2 hf3 (by simp; omega) (fun x e => by have := hgl x e; simp; omega)
    exact hfs _ (by repeat' first | with_reducible refine Fr.setCell ?_ ?_ _ | with_reducible refine Fr.drew ?_ | with_reducible exact Fr.refl _ _ | exact .inl (by simp))

set_option maxHeartbeats 4000000 in
set_option maxRecDepth 100000 in
theorem call_peek (hk : o.kind = k_peek) (a c : Addr) (hV : Env W w a c) (ho : o.Ok) : Calls Tryd.prog 29 #[.pointer (some ⟨b, 0, none⟩), o.val] w (CallPost W b s o g len w) := by
  obtain ⟨kind, text, size, n, char⟩ := o
  simp only at hk
  subst hk
  have HM := Lib.hid (callM_peek s ⟨k_peek, text, size, n, char⟩ rfl)
  try simp only at HM
  have hsz : size ≤ 65535 := ho.size
  have hc0 : -2147483648 ≤ char := ho.c0
  have hc1 : char ≤ 2147483647 := ho.c1
  clear ho
  have hbl : b < w.heap.size := h.bw.buf.blk.lt
  have hgl : ∀ x, g = some x → x < w.heap.size := fun x e => (h.bw.buf.some_ x e).2.lt
  have hcap := h.bw.buf.cap_le
  have hlen := h.bw.buf.len_le
  have hlo := h.bw.len_
  have hlr4 := h.rec_.le4
  have hlow := hV.low
  have hWb := h.bw.b_
  have hEo := fun o1 o2 o3 => hV.eof.fr_old ((((Fr.refl [] w).alloc o1).alloc o2).alloc o3) (by simp)
  have hTo := fun o1 o2 o3 => hV.tabs.fr_old ((((Fr.refl [] w).alloc o1).alloc o2).alloc o3) (by simp)
  have hUo := fun o1 o2 o3 => hV.unr.fr_old ((((Fr.refl [] w).alloc o1).alloc o2).alloc o3) (by simp)
  have HV := Lib.hid hV
  have HL := Lib.hid fun o1 o2 o3 => Buffer_PeekS _ (((h.bw.buf.alloc o1).alloc o2).alloc o3) size a (hEo o1 o2 o3)
  rw [h.bw.reads, hlo] at HL
  clear hEo hTo hUo hV
  have H := Lib.hid h
  clear h
  unfold OpV.val
  go_enter Tryd.func29, Tryd.ntmps29
  go_wp2_with fail
  refine (HL.out _ _ _).mono ?_
  rintro e w2 ⟨A, m, c0, rfl, hSl, k, hw⟩
  have hf2 := Fr.of_drew hw
  obtain ⟨k1, k2⟩ := two_facts hf2 (by simp)
  have k1c0 : w2.cell? ⟨w.heap.size + 1, 0, none⟩ = some (.string ⟨#[]⟩) := k1.cell 0
  have k1f0 := k1.frozen 0
  have k1c1 : w2.cell? ⟨w.heap.size + 1, 1, none⟩ = some (.int .i64 0) := k1.cell 1
  have k1f1 := k1.frozen 1
  have k1c2 : w2.cell? ⟨w.heap.size + 1, 2, none⟩ = some (.int .i32 0) := k1.cell 2
  have k1f2 := k1.frozen 2
  have k1c3 : w2.cell? ⟨w.heap.size + 1, 3, none⟩ = some (.string ⟨#[]⟩) := k1.cell 3
  have k1f3 := k1.frozen 3
  have k2c0 : w2.cell? ⟨w.heap.size + 1 + 1, 0, none⟩ = some (.string ⟨#[]⟩) := k2.cell 0
  have k2f0 := k2.frozen 0
  have k2c1 : w2.cell? ⟨w.heap.size + 1 + 1, 1, none⟩ = some (.int .i64 0) := k2.cell 1
  have k2f1 := k2.frozen 1
  have k2c2 : w2.cell? ⟨w.heap.size + 1 + 1, 2, none⟩ = some (.int .i32 0) := k2.cell 2
  have k2f2 := k2.frozen 2
  have k2c3 : w2.cell? ⟨w.heap.size + 1 + 1, 3, none⟩ = some (.string ⟨#[]⟩) := k2.cell 3
  have k2f3 := k2.frozen 3
  clear k1 k2
  have hf12 : Fr (b :: g.toList) w w2 := fr_three hf2 (by simp)
  have hE2 : Eof w2 a := HV.out.eof.fr hf12 (by simp only [List.mem_cons, Option.mem_toList]; rintro (rfl | hi); omega; have := H.out.bw.new_ _ hi; omega)
  have hS2 : Scr W w2 b (s.oth s.text) g row len off lr := by
    have h0 : Scr W w b (s.oth s.text) g row len off lr := ⟨H.out.bw, RecOk.oth _ _ _ _ _⟩
    exact (((h0.alloc _).alloc _).alloc _).fr hf2 (by simp) (by simp)
  have HS2 := Lib.hid hS2
  have HT := Lib.hid (told_ev w2.drew a hE2 (decide (s.text.length < size)))
  have hst := run_string_sl (P := Tryd.prog) (hSl.fr (Fr.refl [] w2).drew (by simp)) 22 9 5 c0 Tryd.underlying22 Tryd.underlying5 Tryd.underlying9
  clear hE2 hSl hw hS2
  generalize hee : decide (s.text.length < size) = ee at *
  have HEE := Lib.hid hee
  clear hee
  go_wp2_with fail
  go_region_with ((go_at_call 39; ((with_reducible refine HT.out.mono ?_); rintro e w3 ⟨rfl, rfl⟩)))
  all_goals
    go_wp2_with fail
    refine bodyPost_ret (v := .agg #[.string ⟨(s.text.take size).toArray⟩, .int .i64 0, .int .i32 0, .string ⟨(eword ee).toArray⟩]) (by simp [results, Tryd.results29, go_sem, k1c0, k1c1, k1c2, k1c3]) rfl ?_
    have hfs : ∀ w3, Fr [w.heap.size + 1, w.heap.size + 1 + 1] w2 w3 → CallPost W b s _ g len w (.returned (.agg #[.string ⟨(s.text.take size).toArray⟩, .int .i64 0, .int .i32 0, .string ⟨(eword ee).toArray⟩])) w3 := fun w3 hf3 =>
      (callPost_known (st := ⟨s.text.take size, 0, 0, eword ee⟩) (by rw [HM.out, ← HEE.out]; simp only [eword, decide_eq_true_eq]) (hf12.trans_of hf3 (by simp; omega)) (HS2.out.fr hf3 (by simp; omega) (fun x e => by have := hgl x e; simp; omega)) (by show len ≤ len + text.length + 4; omega) :)
    exact hfs _ (by repeat' first | with_reducible refine Fr.setCell ?_ ?_ _ | with_reducible refine Fr.drew ?_ | with_reducible exact Fr.refl _ _ | exact .inl (by simp))

set_option maxHeartbeats 4000000 in
set_option maxRecDepth 100000 in
theorem call_read (hk : o.kind = k_read) (a c : Addr) (hV : Env W w a c) (ho : o.Ok) : Calls Tryd.prog 29 #[.pointer (some ⟨b, 0, none⟩), o.val] w (CallPost W b s o g len w) := by
  obtain ⟨kind, text, size, n, char⟩ := o
  simp only at hk
  subst hk
  have HM := Lib.hid (callM_read s ⟨k_read, text, size, n, char⟩ rfl)
  try simp only at HM
  have hsz : size ≤ 65535 := ho.size
  have hc0 : -2147483648 ≤ char := ho.c0
  have hc1 : char ≤ 2147483647 := ho.c1
  clear ho
  have hbl : b < w.heap.size := h.bw.buf.blk.lt
  have hgl : ∀ x, g = some x → x < w.heap.size := fun x e => (h.bw.buf.some_ x e).2.lt
  have hcap := h.bw.buf.cap_le
  have hlen := h.bw.buf.len_le
  have hlo := h.bw.len_
  have hlr4 := h.rec_.le4
  have hlow := hV.low
  have hWb := h.bw.b_
  have hEo := fun o1 o2 o3 => hV.eof.fr_old ((((Fr.refl [] w).alloc o1).alloc o2).alloc o3) (by simp)
  have hTo := fun o1 o2 o3 => hV.tabs.fr_old ((((Fr.refl [] w).alloc o1).alloc o2).alloc o3) (by simp)
  have hUo := fun o1 o2 o3 => hV.unr.fr_old ((((Fr.refl [] w).alloc o1).alloc o2).alloc o3) (by simp)
  have HV := Lib.hid hV
  have hmk := run_make_row' (P := Tryd.prog) 22 5 (.int .u8 0) 1 Tryd.underlying22 infoB rfl .u16 .u16 size (by omega) (by omega)
  have HL := Lib.hid fun o1 o2 o3 => Buffer_ReadL _ ((((h.bw.buf.alloc o1).alloc o2).alloc o3).alloc (.cells (madeCells #[.int .u8 0] size) 5)) (w.heap.size + 1 + 1 + 1) (List.replicate size 0) (by have := row_made (((w.alloc o1).alloc o2).alloc o3) size; simpa using this) (by omega) (fun e => by have := hgl _ e; omega) (by simp; omega) a ((hEo o1 o2 o3).fr_old ((Fr.refl [] _).alloc _) (by simp)) (by omega)
  simp only [List.length_replicate] at HL
  rw [h.bw.reads, hlo] at HL
  clear hEo hTo hUo hV
  have H := Lib.hid h
  clear h
  unfold OpV.val
  go_enter Tryd.func29, Tryd.ntmps29
  go_wp2_with fail
  refine (HL.out _ _ _).mono ?_
  rintro e w2 ⟨m, eo, len', off', lr', x, rfl, hmz, hSl, hB2, HA, hf2⟩
  have hf2' := ((Fr.refl [b, w.heap.size + 1 + 1 + 1] _).alloc (.cells (madeCells #[.int .u8 0] size) 5)).trans hf2
  obtain ⟨k1, k2⟩ := two_facts2 hf2' (by simp; omega)
  have k1c0 : w2.cell? ⟨w.heap.size + 1, 0, none⟩ = some (.string ⟨#[]⟩) := k1.cell 0
  have k1f0 := k1.frozen 0
  have k1c1 : w2.cell? ⟨w.heap.size + 1, 1, none⟩ = some (.int .i64 0) := k1.cell 1
  have k1f1 := k1.frozen 1
  have k1c2 : w2.cell? ⟨w.heap.size + 1, 2, none⟩ = some (.int .i32 0) := k1.cell 2
  have k1f2 := k1.frozen 2
  have k1c3 : w2.cell? ⟨w.heap.size + 1, 3, none⟩ = some (.string ⟨#[]⟩) := k1.cell 3
  have k1f3 := k1.frozen 3
  have k2c0 : w2.cell? ⟨w.heap.size + 1 + 1, 0, none⟩ = some (.string ⟨#[]⟩) := k2.cell 0
  have k2f0 := k2.frozen 0
  have k2c1 : w2.cell? ⟨w.heap.size + 1 + 1, 1, none⟩ = some (.int .i64 0) := k2.cell 1
  have k2f1 := k2.frozen 1
  have k2c2 : w2.cell? ⟨w.heap.size + 1 + 1, 2, none⟩ = some (.int .i32 0) := k2.cell 2
  have k2f2 := k2.frozen 2
  have k2c3 : w2.cell? ⟨w.heap.size + 1 + 1, 3, none⟩ = some (.string ⟨#[]⟩) := k2.cell 3
  have k2f3 := k2.frozen 3
  clear k1 k2
  have hf12 : Fr (b :: g.toList) w w2 := fr_three hf2' (by simp; omega)
  have hE2 : Eof w2 a := HV.out.eof.fr hf12 (by simp only [List.mem_cons, Option.mem_toList]; rintro (rfl | hi); omega; have := H.out.bw.new_ _ hi; omega)
  have HT := Lib.hid (told_ev w2.drew a hE2 eo)
  have HB2 := Lib.hid hB2
  have hst := run_string_sl (P := Tryd.prog) (hSl.fr (Fr.refl [] w2).drew (by simp)) 22 9 5 size Tryd.underlying22 Tryd.underlying5 Tryd.underlying9
  have hsl := fun W => run_cut_h (P := Tryd.prog) 22 5 Tryd.underlying22 size5 (some ⟨w.heap.size + 1 + 1 + 1, 0, none⟩) size size W m hmz
  clear hB2 hE2 hSl hf2
  go_wp2_with fail
  go_region_with ((go_at_call 39; ((with_reducible refine HT.out.mono ?_); rintro e w3 ⟨rfl, rfl⟩)))
  all_goals
    go_wp2_with fail
    refine bodyPost_ret (v := .agg #[.string ⟨x.toArray⟩, .int .i64 (m : Int), .int .i32 0, .string ⟨(eword eo).toArray⟩]) (by simp [results, Tryd.results29, go_sem, k1c0, k1c1, k1c2, k1c3]) rfl ?_
    have hfs : ∀ w3, Fr [w.heap.size + 1, w.heap.size + 1 + 1] w2 w3 → CallPost W b s _ g len w (.returned (.agg #[.string ⟨x.toArray⟩, .int .i64 (m : Int), .int .i32 0, .string ⟨(eword eo).toArray⟩])) w3 := fun w3 hf3 =>
      read_post HM.out (hf12.trans_of hf3 (by simp; omega)) H.out HB2.out HA.out hf3 (by simp; omega) (fun x e => by have := hgl x e; simp; omega)
    exact hfs _ (by repeat' first | with_reducible refine Fr.setCell ?_ ?_ _ | with_reducible refine Fr.drew ?_ | with_reducible exact Fr.refl _ _ | exact .inl (by simp))

set_option maxHeartbeats 4000000 in
set_option maxRecDepth 100000 in
theorem call_write (hk : o.kind = k_write) (ho : o.Ok) (hlim : len + o.text.length + 4 ≤ 140737488355328) : Calls Tryd.prog 29 #[.pointer (some ⟨b, 0, none⟩), o.val] w (CallPost W b s o g len w) := by
  obtain ⟨kind, text, size, n, char⟩ := o
  simp only at hk
  subst hk
  have HM := Lib.hid (callM_write s ⟨k_write, text, size, n, char⟩ rfl)
  try simp only at HM
  have hsz : size ≤ 65535 := ho.size
  have hc0 : -2147483648 ≤ char := ho.c0
  have hc1 : char ≤ 2147483647 := ho.c1
  clear ho
  try simp only at hlim
  have hbl : b < w.heap.size := h.bw.buf.blk.lt
  have hgl : ∀ x, g = some x → x < w.heap.size := fun x e => (h.bw.buf.some_ x e).2.lt
  have hcap := h.bw.buf.cap_le
  have hlen := h.bw.buf.len_le
  have hlo := h.bw.len_
  have hlr4 := h.rec_.le4
  obtain ⟨pad, cc, w1, hcv, HC, hR, hfc⟩ := run_bytes_row (((w.alloc (.cells #[.string ⟨k_write.toArray⟩, .string ⟨text.toArray⟩, .int .u16 (size : Int), .int .i64 n, .int .i32 char] 59)).alloc (.cells #[.string ⟨#[]⟩, .int .i64 0, .int .i32 0, .string ⟨#[]⟩] 36)).alloc (.cells #[.string ⟨#[]⟩, .int .i64 0, .int .i32 0, .string ⟨#[]⟩] 36)) text (by omega)
  have e3 : ((((w.alloc (.cells #[.string ⟨k_write.toArray⟩, .string ⟨text.toArray⟩, .int .u16 (size : Int), .int .i64 n, .int .i32 char] 59)).alloc (.cells #[.string ⟨#[]⟩, .int .i64 0, .int .i32 0, .string ⟨#[]⟩] 36)).alloc (.cells #[.string ⟨#[]⟩, .int .i64 0, .int .i32 0, .string ⟨#[]⟩] 36))).heap.size = w.heap.size + 1 + 1 + 1 := by simp
  rw [e3] at hcv hR
  have hB1 := ((((h.bw.buf.alloc _).alloc _).alloc _).fr hfc (by simp) (by simp))
  have HL := Lib.hid (Buffer_Write w1 hB1 (some ⟨w.heap.size + 1 + 1 + 1, 0, none⟩) text.length cc text ⟨rfl, by have := hR.rd 0 text.length; simpa using this⟩ (by rintro _ ad ⟨⟩; simp; omega) (by rintro _ ad ⟨⟩; simp only [Option.mem_toList]; intro hi; have := hgl _ hi; omega) (by omega))
  have HF := Lib.hid hfc
  clear hR hB1 hfc e3
  have H := Lib.hid h
  clear h
  unfold OpV.val
  go_enter Tryd.func29, Tryd.ntmps29
  go_wp2_with fail
  refine HL.out.mono ?_
  rintro e w2 ⟨g', row', len', off', rfl, hp⟩
  have hf2 := (HF.out.more (T := b :: g.toList) (by simp)).trans hp.fr
  obtain ⟨k1, k2⟩ := two_facts hf2 (by simp only [List.mem_cons, Option.mem_toList]; rintro i (rfl | hi); exact hbl; exact hgl i hi)
  have k1c0 : w2.cell? ⟨w.heap.size + 1, 0, none⟩ = some (.string ⟨#[]⟩) := k1.cell 0
  have k1f0 := k1.frozen 0
  have k1c1 : w2.cell? ⟨w.heap.size + 1, 1, none⟩ = some (.int .i64 0) := k1.cell 1
  have k1f1 := k1.frozen 1
  have k1c2 : w2.cell? ⟨w.heap.size + 1, 2, none⟩ = some (.int .i32 0) := k1.cell 2
  have k1f2 := k1.frozen 2
  have k1c3 : w2.cell? ⟨w.heap.size + 1, 3, none⟩ = some (.string ⟨#[]⟩) := k1.cell 3
  have k1f3 := k1.frozen 3
  have k2c0 : w2.cell? ⟨w.heap.size + 1 + 1, 0, none⟩ = some (.string ⟨#[]⟩) := k2.cell 0
  have k2f0 := k2.frozen 0
  have k2c1 : w2.cell? ⟨w.heap.size + 1 + 1, 1, none⟩ = some (.int .i64 0) := k2.cell 1
  have k2f1 := k2.frozen 1
  have k2c2 : w2.cell? ⟨w.heap.size + 1 + 1, 2, none⟩ = some (.int .i32 0) := k2.cell 2
  have k2f2 := k2.frozen 2
  have k2c3 : w2.cell? ⟨w.heap.size + 1 + 1, 3, none⟩ = some (.string ⟨#[]⟩) := k2.cell 3
  have k2f3 := k2.frozen 3
  clear k1 k2
  have hf12 : Fr (b :: g.toList) w w2 := fr_three hf2 (fun i hi => .inl hi)
  have hw1 := HF.out.size
  simp at hw1
  have hgx : ∀ x, g' = some x → x ∉ [w.heap.size + 1, w.heap.size + 1 + 1] := fun x e => by
    rcases hp.at_ x e with h1 | h1
    · have := hgl x h1; simp; omega
    · simp; omega
  have hS2 : Scr W w2 b (s.wr text) g' row' len' off' 0 := by
    refine ⟨?_, RecOk.wr _ _ _ _⟩
    rw [wr_text]
    exact Bw.put ⟨((((H.out.bw.buf.alloc _).alloc _).alloc _).fr HF.out (by simp) (by simp)), H.out.bw.reads, H.out.bw.new_, H.out.bw.b_⟩ (by omega) hp
  have HS2 := Lib.hid hS2
  have hle : len' ≤ len + text.length := hp.len_le
  have HLE := Lib.hid hle
  clear hp hS2 hle hw1
  go_wp2_with fail
  refine (told_nil _).mono ?_
  rintro e w3 ⟨rfl, rfl⟩
  go_wp2_with fail
  refine bodyPost_ret (v := .agg #[.string ⟨#[]⟩, .int .i64 (text.length : Int), .int .i32 0, .string ⟨#[]⟩]) (by simp [results, Tryd.results29, go_sem, k1c0, k1c1, k1c2, k1c3]) rfl ?_
  have hfs : ∀ w3, Fr [w.heap.size + 1, w.heap.size + 1 + 1] w2 w3 → CallPost W b s _ g len w (.returned (.agg #[.string ⟨#[]⟩, .int .i64 (text.length : Int), .int .i32 0, .string ⟨#[]⟩])) w3 := fun w3 hf3 =>
    (callPost_known (st := ⟨[], (text.length : Int), 0, []⟩) HM.out (hf12.trans_of hf3 (by simp; omega)) (HS2.out.fr hf3 (by simp; omega) hgx) (by show len' ≤ len + text.length + 4; have := HLE.out; omega) :)
  exact hfs _ (by repeat (first | refine Fr.setCell ?_ (.inl (by simp)) _ | exact Fr.refl _ _))

end
end Go.Proofs.YtgjaeggpaomoaaaDoor
