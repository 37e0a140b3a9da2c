/- Buffers: written with code points. -/
import Derived.Test.YtgniidnbpkhmcaaDoorBufRune
namespace Go.Proofs.YtgniidnbpkhmcaaDoor
open Go.RowKit
set_option linter.unusedVariables false
attribute [local go_sem ↓] Go.wp_at_zero Go.wp_at_succ

theorem wst_roundR {w wr w2 w' : World} {b : Nat} {l : List UInt8} {ls : List (List UInt8)} {k : Nat} {x : List UInt8} {g g2 : Option Nat} {row row2 : List UInt8} {len len2 off2 : Nat} {lr : Int} {v v' : Value} {o : Obj} (hk : k < ls.length) (hx : ls[k]? = some x) (hB : Bw w.heap.size wr b (l ++ (ls.take k).flatten) g row len 0 lr) (hf : Fr [] w wr)
    (hw : PutR wr w2 b g row len 0 x g2 row2 len2 off2) (ho : w2.ownsRow w.heap.size 3 1 v k (((ls.take k).map List.length).map iv)) (ho' : w'.ownsRow w.heap.size 3 1 v' (k + 1) (((ls.take k).map List.length).map iv ++ [.int .i64 (x.length : Int)])) (hg : (w2.alloc o).grownBy w' v.ownBlock) :
    WstRel w b l ls v' (.int .i64 ((k + 1 : Nat) : Int)) w' := by
  have hf2 := hB.fr_ hf rfl hw.fr (fun _ h => h)
  obtain rfl : off2 = 0 := (hw.zero rfl).2
  refine ⟨k + 1, g2, row2, len2, 0, by omega, rfl, ?_, ?_, Fr.app hf2 ho hg⟩
  · rw [take_next ls k x hx, List.map_append, List.map_append]
    exact ho'
  · have hB2 := hB.putR hf.size hw
    rw [flat_next ls k x hx, ← List.append_assoc]
    exact hB2.app ho hg (by decide) (by decide)

set_option maxHeartbeats 1600000 in
theorem impl_WriteRunes (A : Option Addr) (n c : Nat) (zs : List Int) (w : World) (hS : Slv w A n (zs.map fun z => Value.int .i32 z)) (hz : ∀ z ∈ zs, -2147483648 ≤ z ∧ z ≤ 2147483647) (hN : n ≤ 2097152) :
    Calls Tryd.prog 21 #[.slice A n c] w fun e w' => ∃ A' c' s, e = .returned (.tuple #[.slice A' n c', .string ⟨s.toArray⟩]) ∧ Slv w' A' n (((encs zs).map List.length).map iv) ∧ Hid (s = (encs zs).flatten) ∧ Fr [] w w' := by
  have hn : n = zs.length := by have := hS.1; simpa using this
  have HN := Lib.hid hn
  have hel := encs_le zs
  rw [← hn] at hel
  clear hn
  go_enter Tryd.func21, Tryd.ntmps21
  go_wp2_with fail
  go_loopw [5, 14] (fun v i wr => WstRel w w.heap.size [] (encs zs) v i wr) (fun _ i _ => n - (intOf i).toNat)
  case atStart =>
    refine ⟨0, _, _, _, _, Nat.zero_le _, rfl, ?_, (Bw.zero w).alloc _, ((Fr.refl [] w).alloc _).alloc _⟩
    have := own_empty_from (w.alloc (.cells #[.slice none 0 0, .int .i64 0, .int .i8 0] 81)) w.heap.size 3 1 (by simp)
    simpa using this
  case round =>
    obtain ⟨k, g, row, len, lr, hk, rfl, ho, hB, hf1⟩ := hrel
    obtain ⟨A', c', rfl⟩ := own_form ho
    by_cases hlt : k < n
    · obtain ⟨ad, u, rfl, hu, hc⟩ := (hS.fr_old hf1 (by simp)).at_ hlt
      rw [List.getElem?_map] at hu
      cases hzk : zs[k]? with
      | none => rw [hzk] at hu; cases hu
      | some z =>
        rw [hzk] at hu
        simp only [Option.map_some, Option.some.injEq] at hu
        subst hu
        have hz' := hz z (List.mem_of_getElem? hzk)
        have hx : (encs zs)[k]? = some (Lib.encodeRune z) := by simp [encs, hzk]
        have hsum := len_le_sum (encs zs) k _ hx
        have HX := Lib.hid hx
        clear hx hzk
        have hlen := hB.len_
        simp only [List.length_append, List.length_nil, Nat.sub_zero, Nat.zero_add] at hlen
        have hw := Buffer_WriteRune wr hB.buf z hz'.1 hz'.2 (by omega)
        have hne := hB.own_ne ho (by decide) (by decide)
        have HB := Lib.hid hB
        clear hB hlen
        go_wp2_with fail
        refine hw.mono ?_
        rintro e w2 ⟨g2, row2, len2, off2, q, rfl, HQ, hw2⟩
        have ho2 := hw2.fr.own ho hne
        have hsz : w.heap.size ≤ w2.heap.size := Nat.le_trans hf1.size hw2.fr.size
        obtain ⟨v', w', hrun, ho', hg', hb'⟩ := run_app (P := Tryd.prog) (w2.alloc (.cells #[.int .i64 (q : Int)] 3)) w.heap.size 26 26 26 3 _ 1 8 Tryd.underlying26 infoI rfl (by decide) _ _ _ (ho2.alloc _) _ 1 _
          (src_one w2 (.int .i64 (q : Int)) 3 3 26 Tryd.underlying26 rfl 1) (by omega) (by omega) (by simp; omega)
        go_wp2_with (at_builtin; refine wpList_append_run rfl _ _ _ _ rfl rfl rfl hrun ?_)
        go_roundw
        case rel =>
          rw [HQ.out] at ho'
          exact wst_roundR (by have := HN.out; simp [encs]; omega) HX.out HB.out hf1 hw2 ho2 ho' hg'
        case measure => simp [intOf]; omega
    · obtain rfl : k = n := by have := HN.out; simp [encs] at hk; omega
      have HB := Lib.hid hB
      have hst := Buffer_String wr hB.buf
      clear hB
      go_wp2_with fail
      refine hst.mono ?_
      rintro e w2 ⟨s, rfl, H2, k2, rfl⟩
      go_wp2_with fail
      go_ret2
      have hv := own_slv (own_drewN ho k2)
      rw [List.take_of_length_le (by have := HN.out; simp [encs]; omega)] at hv
      refine ⟨_, _, _, rfl, hv, ?_, hf1.drewN _⟩
      show s = _
      rw [H2.out, HB.out.reads, List.take_of_length_le (by have := HN.out; simp [encs]; omega), List.nil_append]

end Go.Proofs.YtgniidnbpkhmcaaDoor
