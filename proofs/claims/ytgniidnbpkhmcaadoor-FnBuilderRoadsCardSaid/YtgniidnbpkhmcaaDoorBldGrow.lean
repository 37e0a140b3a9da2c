/- strings.Builder's Grow. -/
import Derived.Test.YtgniidnbpkhmcaaDoorBld
import Derived.Test.YtgniidnbpkhmcaaDoorCopy
namespace Go.Proofs.YtgniidnbpkhmcaaDoor
open Go.RowKit
set_option linter.unusedVariables false
attribute [local go_sem ↓] Go.wp_at_zero Go.wp_at_succ

theorem row_fresh (w : World) (l : List UInt8) : Row (w.alloc (.cells (bvs l) 5)) w.heap.size l := ⟨0, 0, heap_alloc_new w _, .inl (Nat.le_refl _)⟩

theorem rowF_setCells {w : World} {g : Nat} {row : List UInt8} {n : Nat} (hR : RowF w g row n) (o : Nat) (l : List UInt8) (h : o + l.length ≤ row.length) : RowF (w.setCells g o (l.map bv)) g (over row o l) n := by
  obtain ⟨lo, hi, h1, h2⟩ := hR
  refine ⟨lo, hi, ?_, h2⟩
  rw [heap_setCells g 5 (lo, hi) (l.map bv) o w (bvs row) h1 (by simpa [bvs] using h)]
  congr 2
  simp [bvs, over_map]
theorem over_head (l row : List UInt8) (len : Nat) (h : len ≤ row.length) : (over l 0 (row.take len)).take len = row.take len := by
  unfold over
  simp only [List.take_zero, List.nil_append, Nat.zero_add]
  rw [List.take_append_of_le_length (by simp; omega), List.take_take, Nat.min_self]

set_option maxHeartbeats 2000000 in
set_option maxRecDepth 1000000 in
theorem Builder_grow (w : World) {b : Nat} {p : Value} {g : Option Nat} {row : List UInt8} {len : Nat} (h : BldP w b p g row len) (n : Nat) (hn : 2 * row.length + n ≤ 281474976710656) :
    Calls Tryd.prog 60 #[.pointer (some ⟨b, 0, none⟩), .int .i64 (n : Int)] w fun e w' => ∃ g' row', e = .returned (.tuple #[]) ∧ BldP w' b p (some g') row' len ∧ Hid (row'.take len = row.take len ∧ 2 * row.length + n ≤ row'.length) ∧ Fr [b] w w' ∧ w.heap.size ≤ g' := by
  obtain ⟨l, hrun, hl1, hl2⟩ := run_makeNoZero_bytes (P := Tryd.prog) w.drew #[3] 22 Tryd.underlying22 (2 * row.length + n) hn
  have hlen := h.len_le
  have hw1 : IntKind.i64.wrap (2 * (row.length : Int)) = 2 * (row.length : Int) := IntWalk.i64_in _ (by omega)
  have hw2 : IntKind.i64.wrap (2 * (row.length : Int) + (n : Int)) = 2 * (row.length : Int) + (n : Int) := IntWalk.i64_in _ (by omega)
  have hcall : (callFunc 67 #[.int .i64 (2 * (row.length : Int) + (n : Int))]).run Tryd.prog w.drew = .ok (.value (.slice (some ⟨w.heap.size, 0, none⟩) (2 * row.length + n) l.length)) (w.drew.drew.drew.alloc (.cells (bvs l) 5)) := by
    rw [run_callFunc_extern Tryd.func67 (by kernel_rfl) (by kernel_rfl) (by kernel_rfl) (e := Extern.BytealgMakeNoZero.makeNoZero #[3] #[22]) (by kernel_rfl)]
    rw [show 2 * (row.length : Int) + (n : Int) = ((2 * row.length + n : Nat) : Int) by omega, hrun]
    rfl
  have hb := h.blk.lt
  have c1 := h.c1
  have hA := h.alloc (.cells (bvs l) 5)
  have c2 := hA.c1
  have f2 := hA.fz 1
  have hsl := fun W => run_cut_h (P := Tryd.prog) 22 5 Tryd.underlying22 size5 (some ⟨w.heap.size, 0, none⟩) (2 * row.length + n) l.length W len (by omega)
  have hcp := fun k => run_copy_sl (P := Tryd.prog) (w := (w.alloc (.cells (bvs l) 5)).drewN k) (row_fresh w l) (hA.drewN k).sl 22 22 3 Tryd.underlying22 size5 0 len l.length row.length (by omega)
  simp only [cutA_zero, Nat.min_self, List.take_take] at hcp
  have hcp3 := hcp 3
  have e3 : (w.alloc (.cells (bvs l) 5)).drewN 3 = (w.alloc (.cells (bvs l) 5)).drew.drew.drew := rfl
  rw [e3] at hcp3
  have hbw : b ≠ w.heap.size := by omega
  have hfs := fr_setCells w.heap.size (List.map bv (List.take len row)) 0 ((w.alloc (.cells (bvs l) 5)).drew.drew.drew)
  have hA3 : BldP ((w.alloc (.cells (bvs l) 5)).drew.drew.drew) b p g row len := hA.drewN 3
  have hR3 : RowF ((w.alloc (.cells (bvs l) 5)).drew.drew.drew) w.heap.size l 0 := ⟨0, 0, heap_alloc_new w _, Nat.le_refl _⟩
  have hne : ∀ x, g = some x → x ≠ w.heap.size := fun x e => by have := (h.some_ x e).2.lt; omega
  have hA4 := hA3.fr hfs (by simpa using hbw) (fun x e => by simpa using hne x e)
  have hR4 := rowF_setCells hR3 0 (List.take len row) (by simp; omega)
  have d1 := hA4.c1
  have g1 := hA4.fz 1
  have HB := Lib.hid hA4
  have HR := Lib.hid hR4
  have HF := Lib.hid ((((Fr.refl [b] w).alloc (.cells (bvs l) 5)).drewN 3).trans_of hfs (by simp))
  clear h hA hrun hcp hA3 hA4 hR3 hR4 hfs hne e3
  generalize (((w.alloc (.cells (bvs l) 5)).drew.drew.drew).setCells w.heap.size 0 (List.map bv (List.take len row))) = w4 at *
  generalize (g.map fun g => (⟨g, 0, none⟩ : Addr)) = A at *
  go_enter Tryd.func60, Tryd.ntmps60
  go_wp2
  go_region
  all_goals
    go_wp2
    go_end0
    have hol : (over l 0 (List.take len row)).length = l.length := over_length _ _ _ (by simp; omega)
    refine ⟨w.heap.size, over l 0 (List.take len row), rfl, ⟨?_, by omega, by omega, by simp, ?_⟩, ⟨?_, by omega⟩, HF.out.setCell (.inl (by simp)) _, Nat.le_refl _⟩
    · rw [hol]
      exact HB.out.blk.set_ 1 _
    · rintro x ⟨⟩
      refine ⟨Ne.symm hbw, ?_⟩
      exact (HR.out.more (Nat.zero_le _)).fr ((Fr.refl [b] w4).setCell (.inl (by simp)) _) (by simpa using Ne.symm hbw)
    · exact over_head _ _ _ hlen

set_option maxHeartbeats 1000000 in
theorem Builder_Grow (w : World) {b : Nat} {g : Option Nat} {row : List UInt8} {len : Nat} (h : Bld w b g row len) (n : Nat) (hn : 2 * (len + n) + n ≤ 281474976710656) :
    Calls Tryd.prog 48 #[.pointer (some ⟨b, 0, none⟩), .int .i64 (n : Int)] w fun e w' => ∃ g' row', e = .returned (.tuple #[]) ∧ Bld w' b g' row' len ∧ Hid (row'.take len = row.take len ∧ len + n ≤ row'.length) ∧ Fr [b] w w' ∧ (∀ x, g' = some x → g = some x ∨ w.heap.size ≤ x) := by
  have hlen := h.len_le
  have hcap := h.cap_le
  have HC := Lib.hid (Builder_copyCheck w h)
  clear h
  have hw1 : IntKind.i64.wrap ((row.length : Int) - (len : Int)) = (row.length : Int) - (len : Int) := IntWalk.i64_in _ (by omega)
  go_enter Tryd.func48, Tryd.ntmps48
  go_wp2_with fail
  refine HC.out.mono ?_
  rintro e w1 ⟨rfl, hB, hf⟩
  have c1 := hB.c1
  by_cases hc : len + n ≤ row.length
  · have hd : decide ((row.length : Int) - (len : Int) < (n : Int)) = false := by simp; omega
    have HB := Lib.hid hB
    clear hB
    generalize (g.map fun g => (⟨g, 0, none⟩ : Addr)) = A at *
    go_wp2_with fail
    go_quiet (fail)
    go_wp2_with fail
    go_end0
    exact ⟨_, _, rfl, ⟨_, .inr rfl, HB.out.drewN _⟩, ⟨rfl, hc⟩, hf.drewN _, fun x e => .inl e⟩
  · have hd : decide ((row.length : Int) - (len : Int) < (n : Int)) = true := by simp; omega
    have HG := Lib.hid fun k => Builder_grow (w1.drewN k) (hB.drewN k) n (by omega)
    clear hB
    generalize (g.map fun g => (⟨g, 0, none⟩ : Addr)) = A at *
    go_wp2_with fail
    go_quiet (fail)
    go_wp2_with fail
    refine (HG.out _).mono ?_
    rintro e w2 ⟨g', row', rfl, hB2, H2, hf2, hg2⟩
    go_wp2_with fail
    go_end0
    exact ⟨_, _, rfl, ⟨_, .inr rfl, hB2⟩, ⟨H2.out.1, by have := H2.out.2; omega⟩, (hf.drewN _).trans hf2, fun x e => .inr (by injection e with e; have := hf.size; simp at hg2; omega)⟩

end Go.Proofs.YtgniidnbpkhmcaaDoor
