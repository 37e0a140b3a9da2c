/- Buffers: written with numbers that are no code points. -/
import Derived.Test.YtjppokaeepapmaaDoorLawNN
namespace Go.Proofs.YtjppokaeepapmaaDoor
open Go.RowKit
set_option linter.unusedVariables false
attribute [local go_sem ↓] Go.wp_at_zero Go.wp_at_succ

def fixR (z : Int) : Int := if validB z then z else 65533
theorem fixR_valid (z : Int) : validB (fixR z) = true := by
  unfold fixR
  split
  · assumption
  · decide
theorem fixR_enc (z : Int) : Lib.encodeRune (fixR z) = Lib.encodeRune z := by
  unfold fixR
  split
  · rfl
  · rename_i h
    simp [validB] at h
    unfold Lib.encodeRune
    rw [Lib.encodeRuneZ_bad (r := z) (by omega), Lib.encodeRuneZ_three (r := 65533) (by omega)]
    rfl
theorem encs_fix (zs : List Int) : encs (zs.map fixR) = encs zs := by
  simp only [encs, List.map_map]
  exact List.map_congr_left fun z _ => fixR_enc z
theorem infoR : (Tryd.prog.info? 21).map (fun i => (i.zero, i.size, i.bytes)) = some (some (.int .i32 0), 1, 4) := by kernel_rfl
def rv (z : Int) : Value := .int .i32 z

set_option maxHeartbeats 800000 in
theorem FnExactWriteWrong_walk (A : Option Addr) (n c : Nat) (zs : List Int) (w : World) (hS : Slv w A n (zs.map fun z => Value.int .i32 z)) (hz : ∀ z ∈ zs, -2147483648 ≤ z ∧ z ≤ 2147483647) (hN : n ≤ 1048576) :
    Calls Tryd.prog 7 #[.slice A n c] w fun e w' => e = .returned (.bool true) ∧ Below w.heap.size w w' := by
  have hn : n = zs.length := by have := hS.1; simpa using this
  have HN := Lib.hid hn
  clear hn
  go_enter Tryd.func7, Tryd.ntmps7
  go_wp2_with fail
  go_loopw [3, 13] (fun v i wr => ∃ k, k ≤ n ∧ i = .int .i64 (k : Int) ∧ wr.ownsRow w.heap.size 21 1 v k (((zs.map fixR).take k).map rv) ∧ Fr [] w wr) (fun _ i _ => n - (intOf i).toNat)
  case atStart => exact ⟨0, Nat.zero_le _, rfl, own_empty w 21 1, (Fr.refl [] w).alloc _⟩
  case round =>
    obtain ⟨k, hk, rfl, ho, hf1⟩ := hrel
    obtain ⟨A', c', rfl⟩ := own_form ho
    by_cases hlt : k < n
    · obtain ⟨ad, u, rfl, hu, hc⟩ := (hS.fr_old hf1 (by simp)).at_ hlt
      rw [List.getElem?_map] at hu
      cases hzk : zs[k]? with
      | none => rw [hzk] at hu; cases hu
      | some z =>
        rw [hzk] at hu
        simp only [Option.map_some, Option.some.injEq] at hu
        subst hu
        have hz' := hz z (List.mem_of_getElem? hzk)
        have hx : (zs.map fixR)[k]? = some (fixR z) := by simp [hzk]
        have HX := Lib.hid hx
        clear hx hzk
        have hvl := spec_Valid z wr hz'.1 hz'.2
        have hsz := hf1.size
        obtain ⟨v', w', hrun, ho', hg', hb'⟩ := run_app (P := Tryd.prog) (wr.alloc (.cells #[.int .i32 (fixR z)] 21)) w.heap.size 37 37 37 21 _ 1 4 Tryd.underlying37 infoR rfl (by decide) _ _ _ (ho.alloc _) _ 1 _
          (src_one wr (.int .i32 (fixR z)) 21 21 37 Tryd.underlying37 rfl 1) (by omega) (by omega) (by simp; omega)
        have HR : Hid (∃ k', k' ≤ n ∧ Value.int .i64 ((k + 1 : Nat) : Int) = .int .i64 (k' : Int) ∧ w'.ownsRow w.heap.size 21 1 v' k' (((zs.map fixR).take k').map rv) ∧ Fr [] w w') := by
          refine ⟨k + 1, by omega, rfl, ?_, Fr.app hf1 ho hg'⟩
          rw [take_next _ k _ HX.out, List.map_append]
          exact ho'
        clear ho' hg' hb'
        go_wp2_with fail
        refine hvl.mono ?_
        rintro e w2 ⟨rfl, rfl⟩
        unfold fixR at hrun
        cases hvb : validB z with
        | true =>
          simp only [hvb, if_true] at hrun
          go_wp2_with (at_builtin; refine wpList_append_run rfl _ _ _ _ rfl rfl rfl hrun ?_)
          go_roundw
          case rel => exact HR.out
          case measure => simp [intOf]; omega
        | false =>
          simp only [hvb, Bool.false_eq_true, if_false] at hrun
          go_wp2_with (at_builtin; refine wpList_append_run rfl _ _ _ _ rfl rfl rfl hrun ?_)
          go_roundw
          case rel => exact HR.out
          case measure => simp [intOf]; omega
    · obtain rfl : k = n := by omega
      have hv := own_slv ho
      rw [List.take_of_length_le (by have := HN.out; simp; omega)] at hv
      have h2 := Lib.hid (impl_WriteRunes A k c zs wr (hS.fr_old hf1 (by simp)) hz (by omega))
      go_wp2_with fail
      refine h2.out.mono ?_
      rintro e w2 ⟨A2, c2, s2, rfl, hS2, H2, hf2⟩
      go_wp2_with fail
      refine (spec_Encodings _ k _ (zs.map fixR) w2 (hv.fr_old hf2 (by simp)) (fun z hm => by
        obtain ⟨z', _, rfl⟩ := List.mem_map.1 hm
        exact fixR_valid z') (by omega)).mono ?_
      rintro e w3 ⟨A3, c3, s3, rfl, hS3, H3, hf3⟩
      rw [encs_fix] at hS3 H3
      obtain rfl : s2 = s3 := by rw [H2.out, H3.out]
      go_wp2_with fail
      refine (sameNumbers_true A2 A3 k c2 c3 _ w3 (hS2.fr_old hf3 (by simp)) hS3 (by omega)).mono ?_
      rintro e w4 ⟨rfl, hf4⟩
      go_wp2_with fail
      go_ret
      exact ⟨ret_true (by simp), (((hf1.trans hf2).trans hf3).trans hf4).below (Nat.le_refl _) (by simp)⟩

end Go.Proofs.YtjppokaeepapmaaDoor
