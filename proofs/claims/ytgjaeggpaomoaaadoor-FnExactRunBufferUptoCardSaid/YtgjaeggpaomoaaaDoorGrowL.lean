/- Grow, with what it leaves of the mark of the last read. -/
import Derived.Test.YtgjaeggpaomoaaaDoorBufGrow
namespace Go.Proofs.YtgjaeggpaomoaaaDoor
open Go.RowKit
set_option linter.unusedVariables false
attribute [local go_sem ↓] Go.wp_at_zero Go.wp_at_succ

section
variable {b : Nat} {g : Option Nat} {row : List UInt8} {len off : Nat} {lr : Int} (w : World) (h : Buf w b g row len off lr)
include h
theorem Buffer_GrowL (n : Nat) (hlim : len + n ≤ 140737488355328) : Calls Tryd.prog 83 #[.pointer (some ⟨b, 0, none⟩), .int .i64 (n : Int)] w fun e w' => ∃ (g' : Option Nat) (row' : List UInt8) (len' off' : Nat) (lr' : Int), e = .returned (.tuple #[]) ∧ Gro w w' b g row len off n g' row' len' off' lr' ∧ (lr' = lr ∨ lr' = 0) := by
  have hgr := Lib.hid (Buffer_grow w h n hlim)
  clear h
  go_enter Tryd.func83, Tryd.ntmps83
  go_wp2_with fail
  refine hgr.out.mono ?_
  rintro e w2 ⟨g2, row2, m, off2, lr2, rfl, hG⟩
  have hle2 := hG.buf.len_le
  have hcl2 := hG.buf.cap_le
  have c0 := hG.buf.c0
  have f0 := hG.buf.fz 0
  have hsl := fun W => run_cut_h (P := Tryd.prog) 22 5 Tryd.underlying22 size5 (g2.map fun g => ⟨g, 0, none⟩) (m + n) row2.length W m (by omega)
  have HG := Lib.hid hG
  clear hG
  go_wp2_with fail
  go_end0
  exact ⟨_, _, _, _, _, rfl, ⟨HG.out.buf.set0 m (by omega) HG.out.off_le, HG.out.reads, hle2, HG.out.m_le, HG.out.cap, HG.out.keeps, HG.out.zero, HG.out.fr.setCell (.inl (by simp)) _, HG.out.at_⟩, HG.out.lr_⟩

theorem impl_grow_okL (n : Nat) (hlim : len + n ≤ 140737488355328) : Calls Tryd.prog 60 #[.pointer (some ⟨b, 0, none⟩), .int .i64 (n : Int)] w fun e w' => ∃ (g' : Option Nat) (row' : List UInt8) (len' off' : Nat) (lr' : Int), e = .returned (.bool true) ∧ Gro w w' b g row len off n g' row' len' off' lr' ∧ (lr' = lr ∨ lr' = 0) := by
  have hmf : ∀ (fn : Fn) (first cap : Array Value) (w : World), (Instr.makeFunc fn first cap).run Tryd.prog w = .ok (.func fn first cap) w := fun _ _ _ _ => rfl
  have hT := Lib.hid fun o => Buffer_GrowL _ (h.alloc o) n hlim
  have hb := h.blk.lt
  have hg : ∀ x, g = some x → x < w.heap.size := fun x e => (h.some_ x e).2.lt
  have HG := Lib.hid hg
  clear h hlim hg
  go_enter_defers Tryd.func60, Tryd.ntmps60
  go_wp2_with fail
  refine (hT.out _).mono ?_
  rintro e w1 ⟨g1, row1, len1, off1, lr1, rfl, hG, hlr⟩
  have hat := hG.at_
  simp only [World.size_alloc] at hat
  have hnb : w.heap.size ∉ b :: g.toList := fun hm => by
    rcases List.mem_cons.1 hm with h1 | h1
    · omega
    · simp only [Option.mem_toList] at h1; have := HG.out _ h1; omega
  have hk := (Blk.new w 4 #[.bool false]).fr hG.fr hnb
  have hc := hk.cell 0
  have hz := hk.frozen 0
  simp at hc
  have HB := Lib.hid (hG.buf.fr ((Fr.refl [w.heap.size] w1).setCell (p := ⟨w.heap.size, 0, none⟩) (.inl (by simp)) (.bool true)) (by simp; omega) (fun x e => by
    rcases hat x e with h1 | h1
    · have := HG.out x h1; simp; omega
    · simp; omega))
  have hfin := Lib.hid ((((Fr.refl (b :: g.toList) w).alloc (.cells #[.bool false] 4)).trans hG.fr).setCell (p := ⟨w.heap.size, 0, none⟩) (.inr (Nat.le_refl _)) (.bool true))
  have HGR := Lib.hid hG
  have HAT := Lib.hid hat
  clear hG hat
  go_wp2_with fail
  refine leaves_cons (f := 82) (args := #[.pointer (some ⟨w.heap.size, 0, none⟩)]) (by simp) (by simp [go_sem]) ?_
  refine (grow_catch_idle ⟨w.heap.size, 0, none⟩ _).mono ?_
  rintro e u' w'' ⟨rfl, rfl, rfl⟩
  refine ⟨.bool true, by simp [results, Tryd.results60, go_sem, hc], ?_⟩
  exact ⟨_, _, _, _, _, rfl, ⟨HB.out, HGR.out.reads, HGR.out.room, HGR.out.len_le, HGR.out.cap, HGR.out.keeps, HGR.out.zero, hfin.out, fun x e => by
    rcases HAT.out x e with h1 | h1
    · exact .inl h1
    · exact .inr (by omega)⟩, hlr⟩
end

end Go.Proofs.YtgjaeggpaomoaaaDoor
