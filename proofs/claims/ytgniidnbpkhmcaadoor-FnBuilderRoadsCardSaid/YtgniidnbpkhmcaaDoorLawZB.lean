/- A builder written with slices; a builder and a buffer. -/
import Derived.Test.YtgniidnbpkhmcaaDoorLawR
import Derived.Test.YtgniidnbpkhmcaaDoorLawZ
namespace Go.Proofs.YtgniidnbpkhmcaaDoor
open Go.RowKit
set_option linter.unusedVariables false
attribute [local go_sem ↓] Go.wp_at_zero Go.wp_at_succ

set_option maxHeartbeats 800000 in
theorem impl_BuildSlices (A : Option Addr) (n c : Nat) (ls : List (List UInt8)) (w : World) (hS : Sls w A n ls) (hN : (ls.map List.length).sum + n ≤ 2097152) :
    Calls Tryd.prog 11 #[.slice A n c] w fun e w' => ∃ A' c' s, e = .returned (.tuple #[.slice A' n c', .string ⟨s.toArray⟩]) ∧ Slv w' A' n ((ls.map List.length).map iv) ∧ Hid (s = ls.flatten) ∧ Fr [] w w' := by
  have HN := Lib.hid hS.len
  go_enter Tryd.func11, Tryd.ntmps11
  go_wp2_with fail
  go_loopw [5, 14] (fun v i wr => BstRel w ls v i wr) (fun _ i _ => n - (intOf i).toNat)
  case atStart =>
    refine ⟨0, _, _, _, Nat.zero_le _, rfl, ?_, ⟨(Bs.made w).bld.alloc _, rfl, (Bs.made w).new_, Nat.le_refl _⟩, ((Fr.refl [] w).alloc _).alloc _⟩
    have := own_empty_at (w.alloc (.cells #[.pointer none, .slice none 0 0] 59)) w.heap.size 3 1 (by simp)
    simpa using this
  case round =>
    obtain ⟨k, g, row, len, hk, rfl, ho, hB, hf1⟩ := hrel
    obtain ⟨A', c', rfl⟩ := own_form ho
    by_cases hlt : k < n
    · obtain ⟨ad0, B0, m0, c0, x0, hA0, hx0, hc0, hB0⟩ := hS.at_ hlt
      obtain ⟨ad, B, m, d, x, rfl, hx, hc, hBs⟩ := (hS.fr_old hf1 (by simp)).at_ hlt
      have hsum := len_le_sum ls k x hx
      have hml : m = x.length := hBs.1
      subst hml
      have hfc := hf1.cell (p := ad.add k) (by
        injection hA0 with hA0
        subst hA0
        exact block_lt_of_cell hc0) (by simp)
      have hold : 0 < x.length → ∀ bd, B = some bd → bd.block < w.heap.size := by
        intro h0 bd e
        injection hA0 with hA0
        subst hA0
        rw [hfc, hc0] at hc
        injection hc with hc
        injection hc with h1 h2 h3
        subst h1 h2
        exact hB0.old h0 bd e
      have HX := Lib.hid hx
      clear hx hx0 hc0 hB0 hfc hA0
      have hlen := hB.len
      have hw := Builder_Write wr hB.bld B x.length d x hBs (fun h0 bd e => by have := hold h0 bd e; omega) (by omega)
      have hne := hB.bld.own_ne ho (by decide) (by decide)
      have HB := Lib.hid hB
      clear hB hlen hBs hold
      go_wp2_with fail
      refine hw.mono ?_
      rintro e w2 ⟨g2, row2, len2, rfl, hw2⟩
      have ho2 := hw2.fr.own ho hne
      have hsz : w.heap.size ≤ w2.heap.size := Nat.le_trans hf1.size hw2.fr.size
      obtain ⟨v', w', hrun, ho', hg', hb'⟩ := run_app (P := Tryd.prog) (w2.alloc (.cells #[.int .i64 (x.length : Int)] 3)) w.heap.size 26 26 26 3 _ 1 8 Tryd.underlying26 infoI rfl (by decide) _ _ _ (ho2.alloc _) _ 1 _
        (src_one w2 (.int .i64 (x.length : Int)) 3 3 26 Tryd.underlying26 rfl 1) (by omega) (by omega) (by simp; omega)
      go_wp2_with (at_builtin; refine wpList_append_run rfl _ _ _ _ rfl rfl rfl hrun ?_)
      go_roundw
      case rel => exact bst_round (by have := HN.out; omega) HX.out HB.out hf1 hw2 ho2 ho' hg'
      case measure => simp [intOf]; omega
    · obtain rfl : k = n := by have := HN.out; omega
      have HB := Lib.hid hB
      have hst := Builder_String wr hB.bld
      clear hB
      go_wp2_with fail
      refine hst.mono ?_
      rintro e w2 ⟨s, rfl, H2, hB2, hf2⟩
      have hne := HB.out.bld.own_ne ho (by decide) (by decide)
      have ho2 := hf2.own ho (fun y hy hm => hne y hy (List.mem_cons_of_mem _ hm))
      have hs : s = ls.flatten := by rw [H2.out, HB.out.reads, List.take_of_length_le (by have := HN.out; omega)]
      have HS := Lib.hid hs
      clear hs
      go_wp2_with fail
      go_ret2
      have hv := own_slv ho2
      rw [List.take_of_length_le (by have := HN.out; omega)] at hv
      exact ⟨_, _, _, rfl, hv, HS, hf1.trans_of hf2 (fun i hi => by simp only [Option.mem_toList] at hi; exact .inr (HB.out.new_ i hi))⟩

end Go.Proofs.YtgniidnbpkhmcaaDoor
