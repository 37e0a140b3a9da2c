/- Truncate, and the function that catches its panic. -/
import Derived.Test.YtgjaeggpaomoaaaDoorBuf
import Derived.Test.YtgjaeggpaomoaaaDoorSpec
import Derived.Deep.RegionWith
import Derived.Deep.DrawnRows
import Derived.Defers
import Derived.Recover
import Derived.WalkLawsBesides
namespace Go.Proofs.YtgjaeggpaomoaaaDoor
open Go.RowKit
set_option linter.unusedVariables false
attribute [local go_sem ↓] Go.wp_at_zero Go.wp_at_succ

section
variable {b : Nat} {g : Option Nat} {row : List UInt8} {len off : Nat} {lr : Int} (w : World) (h : Buf w b g row len off lr)
include h
theorem Buf.reset_ :
    Buf (((w.setCell ⟨b, 0, none⟩ (.slice (g.map fun g => ⟨g, 0, none⟩) 0 row.length)).setCell ⟨b, 1, none⟩ (.int .i64 0)).setCell ⟨b, 2, none⟩ (.int .i8 0)) b g row 0 0 0 :=
  ⟨((h.blk.set_ 0 _).set_ 1 _).set_ 2 _, Nat.le_refl _, Nat.zero_le _, h.cap_le, h.none_, fun y e => ⟨(h.some_ y e).1, (((h.some_ y e).2.far (by simpa using Ne.symm (h.some_ y e).1) _).far (by simpa using Ne.symm (h.some_ y e).1) _).far (by simpa using Ne.symm (h.some_ y e).1) _⟩⟩
theorem Buffer_Reset_ : Calls Tryd.prog 61 #[.pointer (some ⟨b, 0, none⟩)] w fun e w' => e = .returned (.tuple #[]) ∧ Buf w' b g row 0 0 0 ∧ Fr [b] w w' := by
  have hB := Lib.hid h
  have c0 := h.c0
  have c1 := h.c1
  have c2 := h.c2
  have f0 := h.fz 0
  have f1 := h.fz 1
  have f2 := h.fz 2
  clear h
  generalize hA : (g.map fun g => (⟨g, 0, none⟩ : Addr)) = A at *
  have HA := Lib.hid hA
  clear hA
  have hsl := fun W => run_cut_h (P := Tryd.prog) 22 5 Tryd.underlying22 size5 A len row.length W 0 (Nat.zero_le _)
  simp only [Int.natCast_zero] at hsl
  go_enter Tryd.func61, Tryd.ntmps61
  go_wp2
  go_end0
  have hf := Buf.reset_ _ hB.out
  rw [HA.out] at hf
  exact ⟨rfl, hf, (((Fr.refl [b] w).setCell (.inl (by simp)) _).setCell (.inl (by simp)) _).setCell (.inl (by simp)) _⟩

theorem Buffer_Truncate_zero : Calls Tryd.prog 81 #[.pointer (some ⟨b, 0, none⟩), .int .i64 0] w fun e w' => e = .returned (.tuple #[]) ∧ Buf w' b g row 0 0 0 ∧ Fr [b] w w' := by
  have hR := Lib.hid (Buffer_Reset_ w h)
  clear h
  go_enter Tryd.func81, Tryd.ntmps81
  go_wp2_with fail
  refine hR.out.mono ?_
  rintro e w1 ⟨rfl, hB, hf⟩
  go_wp2_with fail
  refine bodyPost_ret (results_none rfl _ _ _) rfl ?_
  exact ⟨rfl, hB, hf⟩

theorem Buffer_Truncate_ok (m : Nat) (h0 : 0 < m) (hm : m ≤ len - off) : Calls Tryd.prog 81 #[.pointer (some ⟨b, 0, none⟩), .int .i64 (m : Int)] w fun e w' => e = .returned (.tuple #[]) ∧ Buf w' b g row (off + m) off 0 ∧ Fr [b] w w' := by
  have hl := h.off_le
  have hml := h.len_le
  have hcl := h.cap_le
  have hL := Lib.hid (Buffer_Len _ (h.set2 0))
  have h2 := h.set2 0
  have hB := Lib.hid h2
  have c0 := h2.c0
  have c1 := h2.c1
  have c2 := h.c2
  have f0 := h2.fz 0
  have f2 := h.fz 2
  have hmz : ((m : Int) == 0) = false := by simp; omega
  have hwr : IntKind.i64.wrap ((off : Int) + (m : Int)) = off + m := IntWalk.i64_in _ (by omega)
  clear h h2
  have hsl := fun W => run_cut_h (P := Tryd.prog) 22 5 Tryd.underlying22 size5 (g.map fun g => ⟨g, 0, none⟩) len row.length W (off + m) (by omega)
  rw [Int.natCast_add] at hsl
  go_enter Tryd.func81, Tryd.ntmps81
  go_wp2_with fail
  refine hL.out.mono ?_
  rintro e w1 ⟨rfl, n1, rfl⟩
  go_wp2_with fail
  go_region
  go_wp2
  go_end0
  exact ⟨rfl, (hB.out.drewN (n1 + 1)).set0 (off + m) (by omega) (by omega), (((Fr.refl [b] w).setCell (.inl (by simp)) _).drewN _).setCell (.inl (by simp)) _⟩

theorem Buffer_Truncate_bad (a : Int) (ha : a < 0 ∨ ((len - off : Nat) : Int) < a) : Calls Tryd.prog 81 #[.pointer (some ⟨b, 0, none⟩), .int .i64 a] w fun e w' => ∃ v, e = .panicked [{ v := .iface 9 v, recovered := false }] ∧ Fr [b] w w' := by
  have hL := Lib.hid (Buffer_Len _ (h.set2 0))
  have c2 := h.c2
  have f2 := h.fz 2
  have haz : (a == 0) = false := by simp; omega
  clear h
  by_cases h0 : a < 0
  · clear ha
    go_enter Tryd.func81, Tryd.ntmps81
    go_wp2_with fail
    exact ⟨rfl, _, rfl, (Fr.refl [b] w).setCell (.inl (by simp)) _⟩
  · have h1 : ((len - off : Nat) : Int) < a := by omega
    clear ha
    go_enter Tryd.func81, Tryd.ntmps81
    go_wp2_with fail
    refine hL.out.mono ?_
    rintro e w1 ⟨rfl, n1, rfl⟩
    go_wp2_with fail
    exact ⟨rfl, _, rfl, ((Fr.refl [b] w).setCell (.inl (by simp)) _).drewN _⟩
end

theorem truncate_catch_panicking (p : Addr) (x : Bool) (u : TypeId) (pv : Value) (older : List PanicEntry) (w : World) (hc : w.cell? p = some (.bool x)) (hz : w.frozen? p = false) :
    CallsD Tryd.prog 80 #[.pointer (some p)] (.panicking ({ v := .iface u pv, recovered := false } :: older)) w fun e u' w' =>
      e = .returned (.tuple #[]) ∧ u' = .panicking ({ v := .iface u pv, recovered := true } :: older) ∧ w' = w.setCell p (.bool false) := by
  refine callsD_of_wpS Tryd.func80 rfl fun c₀ cs hu => ?_
  apply wpS_seq
  apply wpS_region
  simp [wpOpsS, go_sem, recoverD, hu, Tryd.ntmps80, Exit.thenS]
  refine wpS_cond (t := true) (by simp [Act.eval, Array.replicate]) ?_
  simp only [if_true]
  apply wpS_region
  simp [wpOpsS, go_sem, hc, hz, bodyPostS, results, Tryd.results80]

theorem truncate_catch_idle (p : Addr) (w : World) :
    CallsD Tryd.prog 80 #[.pointer (some p)] .returning w fun e u' w' => e = .returned (.tuple #[]) ∧ u' = .returning ∧ w' = w := by
  refine callsD_of_wpS Tryd.func80 rfl fun c₀ cs hu => ?_
  apply wpS_seq
  apply wpS_region
  simp [wpOpsS, go_sem, recoverD, hu, Tryd.ntmps80, Exit.thenS]
  refine wpS_cond (t := false) (by simp [Act.eval, Array.replicate]) ?_
  simp only [Bool.false_eq_true, if_false]
  refine wpS_of_wp (wp_skip ?_)
  cases c₀
  simp_all [bodyPostS, results, Tryd.results80]

section
variable {b : Nat} {g : Option Nat} {row : List UInt8} {len off : Nat} {lr : Int} (w : World) (h : Buf w b g row len off lr)
include h
theorem impl_truncate_bad (a : Int) (ha : a < 0 ∨ ((len - off : Nat) : Int) < a) : Calls Tryd.prog 59 #[.pointer (some ⟨b, 0, none⟩), .int .i64 a] w fun e w' => e = .returned (.bool false) ∧ Fr [b] w w' := by
  have hmf : ∀ (fn : Fn) (first cap : Array Value) (w : World), (Instr.makeFunc fn first cap).run Tryd.prog w = .ok (.func fn first cap) w := fun _ _ _ _ => rfl
  have hT := Lib.hid fun o => Buffer_Truncate_bad _ (h.alloc o) a ha
  have hb := h.blk.lt
  clear h ha
  go_enter_defers Tryd.func59, Tryd.ntmps59
  go_wp2_with fail
  refine (hT.out _).mono ?_
  rintro e w1 ⟨v, rfl, hf⟩
  have hk := (Blk.new w 4 #[.bool false]).fr hf (by simp; omega)
  have hc := hk.cell 0
  have hz := hk.frozen 0
  go_wp2_with fail
  refine leaves_cons (f := 80) (args := #[.pointer (some ⟨w.heap.size, 0, none⟩)]) (by simp) (by simp [go_sem]) ?_
  refine (truncate_catch_panicking ⟨w.heap.size, 0, none⟩ false 9 _ [] _ hc hz).mono ?_
  rintro e u' w'' ⟨rfl, rfl, rfl⟩
  have hfin := (((Fr.refl [b] w).alloc (.cells #[.bool false] 4)).trans_of hf (by simp)).setCell (p := ⟨w.heap.size, 0, none⟩) (.inr (Nat.le_refl _)) (.bool false)
  simp at hc
  simpa [Leaves, settle, results, Tryd.results59, go_sem, hc, hz] using hfin

theorem impl_truncate_ok (m : Nat) (hm : m ≤ len - off) : Calls Tryd.prog 59 #[.pointer (some ⟨b, 0, none⟩), .int .i64 (m : Int)] w fun e w' => ∃ len' off', e = .returned (.bool true) ∧ Buf w' b g row len' off' 0 ∧ Hid (len' - off' = m ∧ (m ≠ 0 → off' = off) ∧ len' ≤ len) ∧ Fr [b] w w' := by
  have hmf : ∀ (fn : Fn) (first cap : Array Value) (w : World), (Instr.makeFunc fn first cap).run Tryd.prog w = .ok (.func fn first cap) w := fun _ _ _ _ => rfl
  have hT : Hid (∀ o, Calls Tryd.prog 81 #[.pointer (some ⟨b, 0, none⟩), .int .i64 (m : Int)] (w.alloc o) fun e w' => ∃ len' off', e = .returned (.tuple #[]) ∧ Buf w' b g row len' off' 0 ∧ Hid (len' - off' = m ∧ (m ≠ 0 → off' = off) ∧ len' ≤ len) ∧ Fr [b] (w.alloc o) w') := by
    intro o
    by_cases h0 : m = 0
    · subst h0
      refine (Buffer_Truncate_zero _ (h.alloc o)).mono ?_
      rintro e w' ⟨rfl, hB, hf⟩
      exact ⟨_, _, rfl, hB, ⟨rfl, by simp, Nat.zero_le _⟩, hf⟩
    · refine (Buffer_Truncate_ok _ (h.alloc o) m (by omega) hm).mono ?_
      rintro e w' ⟨rfl, hB, hf⟩
      exact ⟨_, _, rfl, hB, ⟨by omega, by simp, by have := h.off_le; omega⟩, hf⟩
  have hb := h.blk.lt
  have hg : ∀ x, g = some x → x < w.heap.size := fun x e => (h.some_ x e).2.lt
  clear h hm
  go_enter_defers Tryd.func59, Tryd.ntmps59
  go_wp2_with fail
  refine (hT.out _).mono ?_
  rintro e w1 ⟨len', off', rfl, hB, H, hf⟩
  have hk := (Blk.new w 4 #[.bool false]).fr hf (by simp; omega)
  have hc := hk.cell 0
  have hz := hk.frozen 0
  simp at hc
  have HB := Lib.hid (hB.fr ((Fr.refl [w.heap.size] w1).setCell (p := ⟨w.heap.size, 0, none⟩) (.inl (by simp)) (.bool true)) (by simp; omega) (fun x e => by have := hg x e; simp; omega))
  have hfin := Lib.hid ((((Fr.refl [b] w).alloc (.cells #[.bool false] 4)).trans_of hf (by simp)).setCell (p := ⟨w.heap.size, 0, none⟩) (.inr (Nat.le_refl _)) (.bool true))
  clear hB
  go_wp2_with fail
  refine leaves_cons (f := 80) (args := #[.pointer (some ⟨w.heap.size, 0, none⟩)]) (by simp) (by simp [go_sem]) ?_
  refine (truncate_catch_idle ⟨w.heap.size, 0, none⟩ _).mono ?_
  rintro e u' w'' ⟨rfl, rfl, rfl⟩
  refine ⟨.bool true, by simp [results, Tryd.results59, go_sem, hc], ?_⟩
  exact ⟨len', off', rfl, HB.out, H, hfin.out⟩
end

/-- The unread portion behind a truncation. -/
theorem unread_trunc (row : List UInt8) (len off len' off' m : Nat) (hm : m ≤ len - off) (hl : len ≤ row.length) (h1 : len' - off' = m) (h2 : m ≠ 0 → off' = off) : unread row len' off' = (unread row len off).take m := by
  rw [unread_eq, unread_eq, h1, List.take_take, show min m (len - off) = m by omega]
  by_cases h0 : m = 0
  · simp [h0]
  · rw [h2 h0]

end Go.Proofs.YtgjaeggpaomoaaaDoor
