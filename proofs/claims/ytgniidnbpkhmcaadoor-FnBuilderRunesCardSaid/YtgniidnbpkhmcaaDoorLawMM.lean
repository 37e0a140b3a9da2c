/- Builders: written with code points. -/
import Derived.Test.YtgniidnbpkhmcaaDoorBldRune
import Derived.Test.YtgniidnbpkhmcaaDoorEnc
namespace Go.Proofs.YtgniidnbpkhmcaaDoor
open Go.RowKit
set_option linter.unusedVariables false
attribute [local go_sem ↓] Go.wp_at_zero Go.wp_at_succ

set_option maxHeartbeats 1600000 in
theorem impl_BuildRunes (A : Option Addr) (n c : Nat) (zs : List Int) (w : World) (hS : Slv w A n (zs.map fun z => Value.int .i32 z)) (hz : ∀ z ∈ zs, -2147483648 ≤ z ∧ z ≤ 2147483647) (hN : n ≤ 2097152) :
    Calls Tryd.prog 20 #[.slice A n c] w fun e w' => ∃ A' c' s, e = .returned (.tuple #[.slice A' n c', .string ⟨s.toArray⟩]) ∧ Slv w' A' n (((encs zs).map List.length).map iv) ∧ Hid (s = (encs zs).flatten) ∧ Fr [] w w' := by
  have hn : n = zs.length := by have := hS.1; simpa using this
  have HN := Lib.hid hn
  have hel := encs_le zs
  rw [← hn] at hel
  clear hn
  go_enter Tryd.func20, Tryd.ntmps20
  go_wp2_with fail
  go_loopw [5, 14] (fun v i wr => BstRel w (encs zs) v i wr) (fun _ i _ => n - (intOf i).toNat)
  case atStart =>
    refine ⟨0, _, _, _, Nat.zero_le _, rfl, ?_, ⟨(Bs.made w).bld.alloc _, rfl, (Bs.made w).new_, Nat.le_refl _⟩, ((Fr.refl [] w).alloc _).alloc _⟩
    have := own_empty_at (w.alloc (.cells #[.pointer none, .slice none 0 0] 59)) w.heap.size 3 1 (by simp)
    simpa using this
  case round =>
    obtain ⟨k, g, row, len, hk, rfl, ho, hB, hf1⟩ := hrel
    obtain ⟨A', c', rfl⟩ := own_form ho
    by_cases hlt : k < n
    · obtain ⟨ad, u, rfl, hu, hc⟩ := (hS.fr_old hf1 (by simp)).at_ hlt
      rw [List.getElem?_map] at hu
      cases hzk : zs[k]? with
      | none => rw [hzk] at hu; cases hu
      | some z =>
        rw [hzk] at hu
        simp only [Option.map_some, Option.some.injEq] at hu
        subst hu
        have hz' := hz z (List.mem_of_getElem? hzk)
        have hx : (encs zs)[k]? = some (Lib.encodeRune z) := by simp [encs, hzk]
        have hsum := len_le_sum (encs zs) k _ hx
        have HX := Lib.hid hx
        clear hx hzk
        have hlen := hB.len
        have hw := Builder_WriteRune wr hB.bld z hz'.1 hz'.2 (by omega)
        have hne := hB.bld.own_ne ho (by decide) (by decide)
        have HB := Lib.hid hB
        clear hB hlen
        go_wp2_with fail
        refine hw.mono ?_
        rintro e w2 ⟨g2, row2, len2, q, rfl, HQ, hw2⟩
        have ho2 := hw2.fr.own ho hne
        have hsz : w.heap.size ≤ w2.heap.size := Nat.le_trans hf1.size hw2.fr.size
        obtain ⟨v', w', hrun, ho', hg', hb'⟩ := run_app (P := Tryd.prog) (w2.alloc (.cells #[.int .i64 (q : Int)] 3)) w.heap.size 26 26 26 3 _ 1 8 Tryd.underlying26 infoI rfl (by decide) _ _ _ (ho2.alloc _) _ 1 _
          (src_one w2 (.int .i64 (q : Int)) 3 3 26 Tryd.underlying26 rfl 1) (by omega) (by omega) (by simp; omega)
        go_wp2_with (at_builtin; refine wpList_append_run rfl _ _ _ _ rfl rfl rfl hrun ?_)
        go_roundw
        case rel =>
          rw [HQ.out] at ho'
          exact bst_round (by have := HN.out; simp [encs]; omega) HX.out HB.out hf1 hw2 ho2 ho' hg'
        case measure => simp [intOf]; omega
    · obtain rfl : k = n := by have := HN.out; simp [encs] at hk; omega
      have HB := Lib.hid hB
      have hst := Builder_String wr hB.bld
      clear hB
      go_wp2_with fail
      refine hst.mono ?_
      rintro e w2 ⟨s, rfl, H2, hB2, hf2⟩
      have hne := HB.out.bld.own_ne ho (by decide) (by decide)
      have ho2 := hf2.own ho (fun y hy hm => hne y hy (List.mem_cons_of_mem _ hm))
      have hs : s = (encs zs).flatten := by rw [H2.out, HB.out.reads, List.take_of_length_le (by have := HN.out; simp [encs]; omega)]
      have HS := Lib.hid hs
      clear hs
      go_wp2_with fail
      go_ret2
      have hv := own_slv ho2
      rw [List.take_of_length_le (by have := HN.out; simp [encs]; omega)] at hv
      exact ⟨_, _, _, rfl, hv, HS, hf1.trans_of hf2 (fun i hi => by simp only [Option.mem_toList] at hi; exact .inr (HB.out.new_ i hi))⟩

end Go.Proofs.YtgniidnbpkhmcaaDoor
