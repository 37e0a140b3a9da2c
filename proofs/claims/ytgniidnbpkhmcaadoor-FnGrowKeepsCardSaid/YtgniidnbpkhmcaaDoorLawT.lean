/- A builder that is grown, and the panic that is caught. -/
import Derived.Test.YtgniidnbpkhmcaaDoorLawR
import Derived.Defers
import Derived.Recover
namespace Go.Proofs.YtgniidnbpkhmcaaDoor
open Go.RowKit
set_option linter.unusedVariables false
attribute [local go_sem ↓] Go.wp_at_zero Go.wp_at_succ

theorem Builder_Grow_bad (w : World) {b : Nat} {g : Option Nat} {row : List UInt8} {len : Nat} (h : Bld w b g row len) (a : Int) (ha : a < 0) :
    Calls Tryd.prog 48 #[.pointer (some ⟨b, 0, none⟩), .int .i64 a] w fun e w' => ∃ v, e = .panicked [{ v := .iface 9 v, recovered := false }] ∧ Bld w' b g row len ∧ Fr [b] w w' := by
  have HC := Lib.hid (Builder_copyCheck w h)
  clear h
  go_enter Tryd.func48, Tryd.ntmps48
  go_wp2_with fail
  refine HC.out.mono ?_
  rintro e w1 ⟨rfl, hB, hf⟩
  have HB := Lib.hid hB
  clear hB
  go_wp2_with fail
  exact ⟨rfl, _, rfl, ⟨_, .inr rfl, HB.out⟩, hf⟩

theorem growBuilder_catch_panicking (p : Addr) (x : Bool) (u : TypeId) (pv : Value) (older : List PanicEntry) (w : World) (hc : w.cell? p = some (.bool x)) (hz : w.frozen? p = false) :
    CallsD Tryd.prog 57 #[.pointer (some p)] (.panicking ({ v := .iface u pv, recovered := false } :: older)) w fun e u' w' =>
      e = .returned (.tuple #[]) ∧ u' = .panicking ({ v := .iface u pv, recovered := true } :: older) ∧ w' = w.setCell p (.bool false) := by
  refine callsD_of_wpS Tryd.func57 rfl fun c₀ cs hu => ?_
  apply wpS_seq
  apply wpS_region
  simp [wpOpsS, go_sem, recoverD, hu, Tryd.ntmps57, Exit.thenS]
  refine wpS_cond (t := true) (by simp [Act.eval, Array.replicate]) ?_
  simp only [if_true]
  apply wpS_region
  simp [wpOpsS, go_sem, hc, hz, bodyPostS, results, Tryd.results57]

theorem growBuilder_catch_idle (p : Addr) (w : World) :
    CallsD Tryd.prog 57 #[.pointer (some p)] .returning w fun e u' w' => e = .returned (.tuple #[]) ∧ u' = .returning ∧ w' = w := by
  refine callsD_of_wpS Tryd.func57 rfl fun c₀ cs hu => ?_
  apply wpS_seq
  apply wpS_region
  simp [wpOpsS, go_sem, recoverD, hu, Tryd.ntmps57, Exit.thenS]
  refine wpS_cond (t := false) (by simp [Act.eval, Array.replicate]) ?_
  simp only [Bool.false_eq_true, if_false]
  refine wpS_of_wp (wp_skip ?_)
  cases c₀
  simp_all [bodyPostS, results, Tryd.results57]

section
variable {b : Nat} {g : Option Nat} {row : List UInt8} {len : Nat} (w : World) (h : Bld w b g row len)
include h
theorem impl_growBuilder_bad (a : Int) (ha : a < 0) : Calls Tryd.prog 39 #[.pointer (some ⟨b, 0, none⟩), .int .i64 a] w fun e w' => e = .returned (.bool false) ∧ Bld w' b g row len ∧ Fr [b] w w' := by
  have hmf : ∀ (fn : Fn) (first cap : Array Value) (w : World), (Instr.makeFunc fn first cap).run Tryd.prog w = .ok (.func fn first cap) w := fun _ _ _ _ => rfl
  have hT := Lib.hid fun o => Builder_Grow_bad _ (h.alloc o) a ha
  have hb := h.lt
  have hg : ∀ x, g = some x → x < w.heap.size := fun x e => by obtain ⟨p, _, h⟩ := h; exact (h.some_ x e).2.lt
  clear h ha
  go_enter_defers Tryd.func39, Tryd.ntmps39
  go_wp2_with fail
  refine (hT.out _).mono ?_
  rintro e w1 ⟨v, rfl, hB, hf⟩
  have hk := (Blk.new w 4 #[.bool false]).fr hf (by simp; omega)
  have hc := hk.cell 0
  have hz := hk.frozen 0
  have HB := Lib.hid (hB.fr ((Fr.refl [w.heap.size] w1).setCell (p := ⟨w.heap.size, 0, none⟩) (.inl (by simp)) (.bool false)) (by simp; omega) (fun x e => by have := hg x e; simp; omega))
  clear hB
  go_wp2_with fail
  refine leaves_cons (f := 57) (args := #[.pointer (some ⟨w.heap.size, 0, none⟩)]) (by simp) (by simp [go_sem]) ?_
  refine (growBuilder_catch_panicking ⟨w.heap.size, 0, none⟩ false 9 _ [] _ hc hz).mono ?_
  rintro e u' w'' ⟨rfl, rfl, rfl⟩
  have hfin := (((Fr.refl [b] w).alloc (.cells #[.bool false] 4)).trans_of hf (by simp)).setCell (p := ⟨w.heap.size, 0, none⟩) (.inr (Nat.le_refl _)) (.bool false)
  have hall := And.intro HB.out hfin
  simp at hc
  simpa [Leaves, settle, results, Tryd.results39, go_sem, hc, hz] using hall

theorem impl_growBuilder_ok (n : Nat) (hn : 2 * (len + n) + n ≤ 281474976710656) : Calls Tryd.prog 39 #[.pointer (some ⟨b, 0, none⟩), .int .i64 (n : Int)] w fun e w' => ∃ g' row', e = .returned (.bool true) ∧ Bld w' b g' row' len ∧ Hid (row'.take len = row.take len ∧ len + n ≤ row'.length) ∧ Fr [b] w w' ∧ (∀ x, g' = some x → g = some x ∨ w.heap.size ≤ x) := by
  have hmf : ∀ (fn : Fn) (first cap : Array Value) (w : World), (Instr.makeFunc fn first cap).run Tryd.prog w = .ok (.func fn first cap) w := fun _ _ _ _ => rfl
  have hT := Lib.hid fun o => Builder_Grow _ (h.alloc o) n hn
  have hb := h.lt
  have hg : ∀ x, g = some x → x < w.heap.size := fun x e => by obtain ⟨p, _, h⟩ := h; exact (h.some_ x e).2.lt
  clear h hn
  go_enter_defers Tryd.func39, Tryd.ntmps39
  go_wp2_with fail
  refine (hT.out _).mono ?_
  rintro e w1 ⟨g1, row1, rfl, hB, H, hf, hg1⟩
  simp only [World.size_alloc] at hg1
  have hk := (Blk.new w 4 #[.bool false]).fr hf (by simp; omega)
  have hc := hk.cell 0
  have hz := hk.frozen 0
  simp at hc
  have HB := Lib.hid (hB.fr ((Fr.refl [w.heap.size] w1).setCell (p := ⟨w.heap.size, 0, none⟩) (.inl (by simp)) (.bool true)) (by simp; omega) (fun x e => by
    rcases hg1 x e with h1 | h1
    · have := hg x h1; simp; omega
    · simp; omega))
  have hfin := Lib.hid ((((Fr.refl [b] w).alloc (.cells #[.bool false] 4)).trans_of hf (by simp)).setCell (p := ⟨w.heap.size, 0, none⟩) (.inr (Nat.le_refl _)) (.bool true))
  clear hB
  go_wp2_with fail
  refine leaves_cons (f := 57) (args := #[.pointer (some ⟨w.heap.size, 0, none⟩)]) (by simp) (by simp [go_sem]) ?_
  refine (growBuilder_catch_idle ⟨w.heap.size, 0, none⟩ _).mono ?_
  rintro e u' w'' ⟨rfl, rfl, rfl⟩
  refine ⟨.bool true, by simp [results, Tryd.results39, go_sem, hc], ?_⟩
  exact ⟨_, _, rfl, HB.out, H, hfin.out, fun x e => by
    rcases hg1 x e with h1 | h1
    · exact .inl h1
    · exact .inr (by omega)⟩
end

theorem impl_GrowBuilder_bad (l : List UInt8) (a : Int) (w : World) (hN : l.length ≤ 2097152) (ha : a < 0) :
    Calls Tryd.prog 18 #[.string ⟨l.toArray⟩, .int .i64 a] w fun e w' => e = .returned (.tuple #[.int .i64 0, .int .i64 0, .string ⟨#[]⟩, .bool false]) ∧ Fr [] w w' := by
  have h1 := Lib.hid (Builder_WriteString _ (Bs.made w).bld l (by omega))
  go_enter Tryd.func18, Tryd.ntmps18
  go_wp2_with fail
  refine h1.out.mono ?_
  rintro e w1 ⟨g1, row1, len1, rfl, hw1⟩
  have hf1 := (Bs.made w).frs ((Fr.refl [] w).alloc _) rfl hw1
  have h2 := Lib.hid (impl_growBuilder_bad w1 hw1.bld a ha)
  clear hw1
  go_wp2_with fail
  refine h2.out.mono ?_
  rintro e w2 ⟨rfl, hB2, hf2⟩
  go_wp2_with fail
  refine bodyPost_ret (v := .tuple #[.int .i64 0, .int .i64 0, .string ⟨#[]⟩, .bool false]) (by simp [results, Tryd.results18, go_sem]) rfl ?_
  exact ⟨rfl, hf1.trans_of hf2 (by simp)⟩

theorem impl_GrowBuilder_ok (l : List UInt8) (n : Nat) (w : World) (hN : l.length ≤ 2097152) (hn : n ≤ 1048576) :
    Calls Tryd.prog 18 #[.string ⟨l.toArray⟩, .int .i64 (n : Int)] w fun e w' => ∃ (c : Nat) (s : List UInt8), e = .returned (.tuple #[.int .i64 (c : Int), .int .i64 (l.length : Int), .string ⟨s.toArray⟩, .bool true]) ∧ l.length + n ≤ c ∧ Hid (s = l) ∧ Fr [] w w' := by
  have h1 := Lib.hid (Builder_WriteString _ (Bs.made w).bld l (by omega))
  go_enter Tryd.func18, Tryd.ntmps18
  go_wp2_with fail
  refine h1.out.mono ?_
  rintro e w1 ⟨g1, row1, len1, rfl, hw1⟩
  have hB1 := (Bs.made w).wrote (by simp) hw1
  have hf1 := (Bs.made w).frs ((Fr.refl [] w).alloc _) rfl hw1
  simp only [List.nil_append] at hB1
  have hl1 := hB1.len
  subst hl1
  have h2 := Lib.hid (impl_growBuilder_ok w1 hB1.bld n (by omega))
  have HB1 := Lib.hid hB1
  clear hB1 hw1
  go_wp2_with fail
  refine h2.out.mono ?_
  rintro e w2 ⟨g2, row2, rfl, hB2, H2, hf2, hg2⟩
  have hf12 := hf1.trans_of hf2 (by simp)
  have h3 := Lib.hid (Builder_Cap w2 hB2)
  have h4 := Lib.hid (Builder_Len w2 hB2)
  have h5 := Lib.hid (Builder_String w2 hB2)
  clear hB2
  go_wp2_with fail
  refine h3.out.mono ?_
  rintro e w3 ⟨rfl, rfl⟩
  go_wp2_with fail
  refine h4.out.mono ?_
  rintro e w3 ⟨rfl, rfl⟩
  go_wp2_with fail
  refine h5.out.mono ?_
  rintro e w5 ⟨s, rfl, H5, hB5, hf5⟩
  go_wp2_with fail
  refine bodyPost_ret (v := .tuple #[.int .i64 (row2.length : Int), .int .i64 (l.length : Int), .string ⟨s.toArray⟩, .bool true]) (by simp [results, Tryd.results18, go_sem]) rfl ?_
  refine ⟨_, _, rfl, H2.out.2, by show _ = _; rw [H5.out, H2.out.1, HB1.out.reads], ?_⟩
  refine hf12.trans_of hf5 (fun i hi => ?_)
  simp only [Option.mem_toList] at hi
  rcases hg2 i hi with h6 | h6
  · exact .inr (HB1.out.new_ i h6)
  · exact .inr (Nat.le_trans hf1.size h6)

end Go.Proofs.YtgniidnbpkhmcaaDoor
