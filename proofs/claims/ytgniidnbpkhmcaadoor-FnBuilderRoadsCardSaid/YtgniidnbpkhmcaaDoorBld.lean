/- The contracts of strings.Builder's functions. -/
import Derived.Test.YtgniidnbpkhmcaaDoorBldMem
import Derived.Deep.RegionWith
import Derived.Deep.DrawnRows
import Derived.WalkLawsBesides
namespace Go.Proofs.YtgniidnbpkhmcaaDoor
open Go.RowKit
set_option linter.unusedVariables false
attribute [local go_sem ↓] Go.wp_at_zero Go.wp_at_succ

theorem info5b : (Tryd.prog.info? 5).map (fun i => (i.zero, i.size, i.bytes)) = some (some (.int .u8 0), 1, 1) := by kernel_rfl
theorem sizeB : (Tryd.prog.info? 59).map (·.size) = some 2 := by kernel_rfl
theorem liesB : liesAt Tryd.prog Tryd.prog.depth 59 (2 / Tryd.prog.cellsOf 59) 0 59 1 = true := by kernel_rfl

set_option maxHeartbeats 1000000 in
set_option maxRecDepth 100000 in
theorem Builder_copyCheck (w : World) {b : Nat} {g : Option Nat} {row : List UInt8} {len : Nat} (h : Bld w b g row len) :
    Calls Tryd.prog 49 #[.pointer (some ⟨b, 0, none⟩)] w fun e w' => e = .returned (.tuple #[]) ∧ BldP w' b (.pointer (some ⟨b, 0, none⟩)) g row len ∧ Fr [b] w w' := by
  obtain ⟨p, hp, h⟩ := h
  obtain ⟨j, hj, hjs⟩ := Option.map_eq_some_iff.1 sizeB
  have HB := Lib.hid h
  have h0 := h.c0
  have f0 := h.fz 0
  have hsh := h.shape
  clear h
  rcases hp with rfl | rfl
  · have H := Lib.hid hsh
    clear hsh
    go_enter Tryd.func49, Tryd.ntmps49
    go_wp2
    rw [Lib.run_to_unsafe w ⟨b, 0, none⟩ Tryd.underlying57 Tryd.underlying92 hj (by rw [hjs]; decide) H.out (Nat.zero_lt_succ 1)]
    simp only [Result.andThen]
    rw [Oper.upon_value]
    go_wp2
    rw [run_callFunc_extern Tryd.func61 (by kernel_rfl) (by kernel_rfl) (by kernel_rfl) (e := Extern.AbiNoEscape.same) (by kernel_rfl)]
    rw [Lib.run_noEscape]
    simp only [Result.andThen]
    rw [Oper.upon_value]
    go_wp2
    rw [Lib.run_from_unsafe w ⟨b, 0, none⟩ Tryd.underlying92 Tryd.underlying57 hj H.out liesB]
    simp only [Result.andThen]
    rw [Oper.upon_value]
    go_wp2
    go_end0
    exact ⟨rfl, HB.out.set0 _, (Fr.refl [b] w).setCell (.inl (by simp)) _⟩
  · go_enter Tryd.func49, Tryd.ntmps49
    go_wp2
    rw [Lib.run_neq_ptr_same w _ Tryd.underlying57 hj]
    go_wp2
    go_end0
    exact ⟨rfl, HB.out, Fr.refl _ _⟩

section
variable {b : Nat} {g : Option Nat} {row : List UInt8} {len : Nat} (w : World) (h : Bld w b g row len)
include h
theorem Builder_Len : Calls Tryd.prog 29 #[.pointer (some ⟨b, 0, none⟩)] w fun e w' => e = .returned (.int .i64 (len : Int)) ∧ w = w' := by
  obtain ⟨p, hp, h⟩ := h
  have c1 := h.c1
  clear h hp
  generalize (g.map fun g => (⟨g, 0, none⟩ : Addr)) = A at *
  generalize row.length = cap at *
  go_enter Tryd.func29, Tryd.ntmps29
  go_wp2
  go_ret
  exact ⟨rfl, rfl⟩
theorem Builder_Cap : Calls Tryd.prog 40 #[.pointer (some ⟨b, 0, none⟩)] w fun e w' => e = .returned (.int .i64 (row.length : Int)) ∧ w = w' := by
  obtain ⟨p, hp, h⟩ := h
  have c1 := h.c1
  clear h hp
  generalize (g.map fun g => (⟨g, 0, none⟩ : Addr)) = A at *
  generalize row.length = cap at *
  go_enter Tryd.func40, Tryd.ntmps40
  go_wp2
  go_ret
  exact ⟨rfl, rfl⟩
/-- What a write leaves. -/
structure Wrote (w w' : World) (b : Nat) (g : Option Nat) (row : List UInt8) (len : Nat) (news : List UInt8) (g' : Option Nat) (row' : List UInt8) (len' : Nat) : Prop where
  bld : Bld w' b g' row' len'
  len_ : len' = len + news.length
  reads : row'.take len' = row.take len ++ news
  keeps : len + news.length ≤ row.length → row'.length = row.length
  fr : Fr (b :: g.toList) w w'
  at_ : ∀ x, g' = some x → g = some x ∨ w.heap.size ≤ x

omit h in
theorem Wrote.of {w1 w2 : World} {g' : Option Nat} {row' : List UInt8} {m : Nat} {news : List UInt8} {w : World} {b : Nat} {g : Option Nat} {row : List UInt8} {len : Nat} {S : List Nat} (h : BldP w1 b (.pointer (some ⟨b, 0, none⟩)) g row len) (hf : Fr S w w1) (hS : ∀ i ∈ S, i = b ∨ w.heap.size ≤ i) (hg : ∀ x, g = some x → x < w.heap.size) (ha : Apped w1 w2 g g' row row' len m news) (hm : news.length = m) :
    Wrote w (w2.setCell ⟨b, 1, none⟩ (.slice (g'.map fun g => ⟨g, 0, none⟩) (len + m) row'.length)) b g row len news g' row' (len + m) := by
  obtain ⟨h1, h2⟩ := h.put ha
  subst hm
  refine ⟨⟨_, .inr rfl, h1⟩, rfl, ha.reads, ha.keeps, ?_, ?_⟩
  · have hf' : Fr (b :: g.toList) w w1 := ⟨hf.os, hf.tape, hf.output, hf.size, fun k hk hn => hf.block k hk (fun hs => by
      rcases hS k hs with h1 | h1
      · exact hn (by simp [h1])
      · omega)⟩
    exact hf'.trans h2
  · intro x e
    rcases ha.at_ x e with h3 | h3
    · exact .inl h3
    · exact .inr (Nat.le_trans hf.size h3)

set_option maxHeartbeats 1000000 in
theorem Builder_WriteString (l : List UInt8) (hl : len + l.length ≤ 140737488351232) : Calls Tryd.prog 27 #[.pointer (some ⟨b, 0, none⟩), .string ⟨l.toArray⟩] w fun e w' => ∃ g' row' len', e = .returned (.tuple #[.int .i64 (l.length : Int), .nilIface]) ∧ Wrote w w' b g row len l g' row' len' := by
  have hg : ∀ x, g = some x → x < w.heap.size := fun x e => by obtain ⟨p, _, h⟩ := h; exact (h.some_ x e).2.lt
  have HC := Lib.hid (Builder_copyCheck w h)
  clear h
  go_enter Tryd.func27, Tryd.ntmps27
  go_wp2_with fail
  refine HC.out.mono ?_
  rintro e w1 ⟨rfl, hB, hf⟩
  have hs := Src.ofString (P := Tryd.prog) w1 (tx := 9) Tryd.underlying9 ⟨l.toArray⟩
  rw [str_size] at hs
  have e1 : Go.byteCells ⟨l.toArray⟩ = l.map bv := by simp [Go.byteCells, bv]
  rw [e1] at hs
  obtain ⟨g', row', w2, hrun, ha⟩ := run_app_f (P := Tryd.prog) w1 22 9 22 Tryd.underlying22 info5b g row len hB.len_le hB.cap_le hB.none_ (fun x e => (hB.some_ x e).2) _ l.length l hs hl
  obtain ⟨d1, f1⟩ := ha.blk hB
  have c1 := hB.c1
  rw [c1] at d1
  go_wp2_with (at_builtin; refine wpList_append_run rfl _ _ _ _ rfl rfl rfl hrun ?_)
  go_ret2
  exact ⟨_, _, _, rfl, Wrote.of hB hf (by simp) hg ha rfl⟩

set_option maxHeartbeats 1000000 in
theorem Builder_Write (A : Option Addr) (n c : Nat) (l : List UInt8) (hS : Sl w A n l) (hA : 0 < n → ∀ ad, A = some ad → ad.block ≠ b) (hl : len + n ≤ 140737488351232) : Calls Tryd.prog 33 #[.pointer (some ⟨b, 0, none⟩), .slice A n c] w fun e w' => ∃ g' row' len', e = .returned (.tuple #[.int .i64 (n : Int), .nilIface]) ∧ Wrote w w' b g row len l g' row' len' := by
  have hg : ∀ x, g = some x → x < w.heap.size := fun x e => by obtain ⟨p, _, h⟩ := h; exact (h.some_ x e).2.lt
  have HC := Lib.hid (Builder_copyCheck w h)
  clear h
  go_enter Tryd.func33, Tryd.ntmps33
  go_wp2_with fail
  refine HC.out.mono ?_
  rintro e w1 ⟨rfl, hB, hf⟩
  have hS1 := hS.fr' hf (fun h0 ad e => by simpa using hA h0 ad e)
  obtain ⟨g', row', w2, hrun, ha⟩ := run_app_f (P := Tryd.prog) w1 22 22 22 Tryd.underlying22 info5b g row len hB.len_le hB.cap_le hB.none_ (fun x e => (hB.some_ x e).2) _ n l (hS1.src Tryd.underlying22 c) hl
  obtain ⟨d1, f1⟩ := ha.blk hB
  have c1 := hB.c1
  rw [c1] at d1
  have hn := Lib.hid hS.1
  clear hS hS1
  go_wp2_with (at_builtin; refine wpList_append_run rfl _ _ _ _ rfl rfl rfl hrun ?_)
  go_ret2
  exact ⟨_, _, _, rfl, Wrote.of hB hf (by simp) hg ha hn.out.symm⟩

set_option maxHeartbeats 1000000 in
theorem Builder_WriteByte (x : UInt8) (hl : len + 1 ≤ 140737488351232) : Calls Tryd.prog 34 #[.pointer (some ⟨b, 0, none⟩), .int .u8 (x.toNat : Int)] w fun e w' => ∃ g' row' len', e = .returned .nilIface ∧ Wrote w w' b g row len [x] g' row' len' := by
  have hg : ∀ x, g = some x → x < w.heap.size := fun x e => by obtain ⟨p, _, h⟩ := h; exact (h.some_ x e).2.lt
  have HC := Lib.hid (Builder_copyCheck w h)
  clear h
  go_enter Tryd.func34, Tryd.ntmps34
  go_wp2_with fail
  refine HC.out.mono ?_
  rintro e w1 ⟨rfl, hB, hf⟩
  have hB2 := hB.alloc (.cells #[.int .u8 (x.toNat : Int)] 5)
  obtain ⟨g', row', w2, hrun, ha⟩ := run_app_f (P := Tryd.prog) (w1.alloc (.cells #[.int .u8 (x.toNat : Int)] 5)) 22 22 22 Tryd.underlying22 info5b g row len hB2.len_le hB2.cap_le hB2.none_ (fun x e => (hB2.some_ x e).2) _ 1 [x] (src_one w1 _ 5 5 22 Tryd.underlying22 rfl 1) hl
  obtain ⟨d1, f1⟩ := ha.blk hB2
  have c1 := hB.c1
  rw [hB2.c1] at d1
  go_wp2_with (at_builtin; refine wpList_append_run rfl _ _ _ _ rfl rfl rfl hrun ?_)
  go_ret
  exact ⟨_, _, _, rfl, Wrote.of hB2 (hf.alloc _) (by simp) hg ha rfl⟩

end

set_option maxHeartbeats 2000000 in
set_option maxRecDepth 100000 in
theorem Builder_String_zero (w : World) {b : Nat} {p : Value} {g : Option Nat} {row : List UInt8} (h : BldP w b p g row 0) :
    Calls Tryd.prog 28 #[.pointer (some ⟨b, 0, none⟩)] w fun e w' => e = .returned (.string ⟨#[]⟩) ∧ Fr [] w w' := by
  have hUS := fun (W : World) (q : Option Addr) => Lib.run_unsafeString_none (P := Tryd.prog) W 84 3 9 q
  have c1 : w.drew.cell? ⟨b, 1, none⟩ = _ := h.drew.c1
  have c0 := h.c1
  have hlt := h.blk.lt
  cases g with
  | none =>
    obtain rfl := h.none_ rfl
    clear h
    have hSD : (Builtin.unsafeSliceData_ #[22] 84 #[.slice none 0 0]).run Tryd.prog w.drew = .ok (.pointer none) w.drew := rfl
    simp only [Option.map_none, List.length_nil] at c1 c0
    go_enter Tryd.func28, Tryd.ntmps28
    go_wp2
    go_region
    all_goals (go_wp2; go_ret; exact ⟨rfl, (Fr.refl [] w).drew⟩)
  | some g =>
    have hR := (h.some_ g rfl).2
    have hsh := hR.shape
    have h2 := Lib.hid (h.drew.alloc (.view ⟨g, 0, none⟩ 5)).c1
    clear h
    simp only [Option.map_some] at c1 c0 h2
    by_cases h0 : row.length = 0
    · have hSD : (Builtin.unsafeSliceData_ #[22] 84 #[.slice (some ⟨g, 0, none⟩) 0 0]).run Tryd.prog w.drew = .ok (.pointer (some ⟨w.drew.heap.size, 0, none⟩)) (w.drew.alloc (.view ⟨g, 0, none⟩ 5)) :=
        Lib.run_unsafeSliceData_zero w.drew _ _ 5 Tryd.underlying84 ⟨g, 0, none⟩ 0 (5, row.length) hsh
      rw [h0] at c1 c0 h2
      have c2 := h2.out
      have c3 : (w.alloc (.view ⟨g, 0, none⟩ 5)).drew.cell? ⟨b, 1, none⟩ = some (.slice (some ⟨g, 0, none⟩) 0 0) := c2
      clear h0 hR hsh
      go_enter Tryd.func28, Tryd.ntmps28
      go_wp2
      go_region
      all_goals (go_wp2; go_ret; exact ⟨rfl, ((Fr.refl [] w).drew).alloc _⟩)
    · have hSD : (Builtin.unsafeSliceData_ #[22] 84 #[.slice (some ⟨g, 0, none⟩) 0 row.length]).run Tryd.prog w.drew = .ok (.pointer (some ⟨g, 0, none⟩)) w.drew :=
        Lib.run_unsafeSliceData_row _ _ _ _ _ _ h0
      clear h0 hR hsh h2
      generalize row.length = cap at *
      go_enter Tryd.func28, Tryd.ntmps28
      go_wp2
      go_region
      all_goals (go_wp2; go_ret; exact ⟨rfl, (Fr.refl [] w).drew⟩)

set_option maxHeartbeats 2000000 in
set_option maxRecDepth 100000 in
theorem Builder_String_some (w : World) {b : Nat} {p : Value} {g : Nat} {row : List UInt8} {len : Nat} (h : BldP w b p (some g) row len) (h0 : 0 < len) :
    Calls Tryd.prog 28 #[.pointer (some ⟨b, 0, none⟩)] w fun e w' => e = .returned (.string ⟨(row.take len).toArray⟩) ∧ w' = w.drew.freeze ⟨g, 0, none⟩ len := by
  have c1 : w.drew.cell? ⟨b, 1, none⟩ = _ := h.drew.c1
  have hR := (h.some_ g rfl).2
  have hl := h.len_le
  have hcl := h.cap_le
  have hsh : w.drew.shape? g = some (5, row.length) := hR.shape
  have hSD : (Builtin.unsafeSliceData_ #[22] 84 #[.slice (some ⟨g, 0, none⟩) len row.length]).run Tryd.prog w.drew = .ok (.pointer (some ⟨g, 0, none⟩)) w.drew :=
    Lib.run_unsafeSliceData_row _ _ _ _ _ _ (by omega)
  have hlen : (row.take len).length = len := by simp; omega
  have hUS := Lib.run_unsafeString_row (P := Tryd.prog) w.drew 84 3 9 5 Tryd.underlying84 (by kernel_rfl) g row.length hsh (row.take len) (by intro e; rw [e] at hlen; simp at hlen; omega) (by omega) (by omega) (by
    intro j x hx
    rw [add_at, Nat.zero_add]
    have : w.drew.cell? ⟨g, j, none⟩ = row[j]?.map bv := hR.cell j
    rw [this]
    rw [List.getElem?_take] at hx
    split at hx
    · rw [hx]; rfl
    · cases hx)
  rw [hlen] at hUS
  simp only [Option.map_some] at c1
  clear h hR hsh hlen
  generalize row.length = cap at *
  generalize row.take len = l at *
  go_enter Tryd.func28, Tryd.ntmps28
  go_wp2
  go_region
  all_goals (go_wp2; go_ret; exact ⟨rfl, rfl⟩)

/-- What a builder holds. -/
theorem Builder_String (w : World) {b : Nat} {g : Option Nat} {row : List UInt8} {len : Nat} (h : Bld w b g row len) : Calls Tryd.prog 28 #[.pointer (some ⟨b, 0, none⟩)] w fun e w' => ∃ s, e = .returned (.string ⟨s.toArray⟩) ∧ Hid (s = row.take len) ∧ Bld w' b g row len ∧ Fr g.toList w w' := by
  obtain ⟨p, hp, h⟩ := h
  by_cases h0 : len = 0
  · subst h0
    refine (Builder_String_zero w h).mono ?_
    rintro e w' ⟨rfl, hf⟩
    exact ⟨[], rfl, by show _ = _; simp, ⟨p, hp, h.fr hf (by simp) (by simp)⟩, hf.more (by simp)⟩
  · cases g with
    | none =>
      have := h.none_ rfl
      subst this
      have := h.len_le
      simp at this
      omega
    | some g =>
      refine (Builder_String_some w h (by omega)).mono ?_
      rintro e w' ⟨rfl, rfl⟩
      have hf : Fr [g] w (w.drew.freeze ⟨g, 0, none⟩ len) := ((Fr.refl [g] w).drew).trans (fr_freeze g len w.drew)
      obtain ⟨hgb, hR⟩ := h.some_ g rfl
      refine ⟨_, rfl, rfl, ⟨p, hp, h.blk.fr hf (by simp; omega), h.len_le, h.cap_le, by simp, ?_⟩, hf⟩
      rintro x ⟨⟩
      exact ⟨hgb, (RowF.freeze (w := w.drew) hR)⟩

end Go.Proofs.YtgniidnbpkhmcaaDoor
