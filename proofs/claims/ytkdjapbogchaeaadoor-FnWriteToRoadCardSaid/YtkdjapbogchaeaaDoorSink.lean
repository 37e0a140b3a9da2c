/- A sink, and a buffer that is written to it. -/
import Derived.Test.YtkdjapbogchaeaaDoorNums
import Derived.Test.YtkdjapbogchaeaaDoorGrow
import Derived.Deep.RegionWith
import Derived.Deep.DrawnRows
import Derived.Deep.RegionLaw
namespace Go.Proofs.YtkdjapbogchaeaaDoor
open Go.RowKit
set_option linter.unusedVariables false
attribute [local go_sem ↓] Go.wp_at_zero Go.wp_at_succ

/-- The error of a sink that takes no more, or none. -/
def fullIf (b : Bool) : Value := if b then .iface 75 (.agg #[]) else .nilIface

set_option maxHeartbeats 1600000 in
set_option maxRecDepth 100000 in
theorem sink_Write (w : World) (k t : Nat) (A : Option Addr) (m c : Nat) (l : List UInt8) (hk : Blk w k 69 #[.slice none 0 0, .int .i64 (t : Int)]) (ht : t ≤ 65535) (hS : Sl w A m l) (hmc : m ≤ c) (hm : m ≤ 9223372036854775807) :
    Calls Tryd.prog 73 #[.pointer (some ⟨k, 0, none⟩), .slice A m c] w fun e w' => ∃ (n : Nat) (B : Option Addr) (d : Nat), e = .returned (.tuple #[.int .i64 (n : Int), fullIf (decide (n < m))]) ∧ Hid (n = min m t) ∧ Blk w' k 69 #[.slice B n d, .int .i64 ((t - n : Nat) : Int)] ∧ Sl w' B n (l.take n) ∧ Hid (0 < n → ∀ ad, B = some ad → w.heap.size ≤ ad.block) ∧ Fr [k] w w' := by
  have c0 : w.cell? ⟨k, 0, none⟩ = some (.slice none 0 0) := hk.cell 0
  have c1 : w.cell? ⟨k, 1, none⟩ = some (.int .i64 (t : Int)) := hk.cell 1
  have hkl := hk.lt
  obtain ⟨n, hn⟩ : ∃ n, n = min m t := ⟨_, rfl⟩
  have hnm : n ≤ m := by omega
  have hnt : n ≤ t := by omega
  have hmin : min (m : Int) (t : Int) = (n : Int) := by omega
  have hml := hS.1
  have hSn : Sl w.drew A n (l.take n) := by
    refine ⟨by simp; omega, fun j hj => ?_⟩
    have hj' : j < l.length := by simp at hj; omega
    obtain ⟨ad, e, hc⟩ := hS.2 j hj'
    exact ⟨ad, e, by simpa using hc⟩
  obtain ⟨v', w2, hrun, ho, hg, hb⟩ := run_app (P := Tryd.prog) w.drew w.heap.size 26 26 26 5 _ 1 1 Tryd.underlying26 info5g rfl (by decide) _ 0 [] (World.ownsRow_nil w.drew w.heap.size 5 1) _ n ((l.take n).map bv) (hSn.src Tryd.underlying26 c) (by omega) (by omega) (by exact Nat.le_refl _)
  simp only [Nat.zero_add, List.nil_append] at ho
  obtain ⟨B, d, rfl⟩ := own_form ho
  have hf2 : Fr [] w w2 := ((Fr.refl [] w).drew).trans (by have := Fr.of_grown hg; simpa [Value.ownBlock] using this)
  have hk2 := hk.fr hf2 (by simp)
  have hB2 : Sl w2 B n (l.take n) := own_sl ho
  have hnew : 0 < n → ∀ ad, B = some ad → w.heap.size ≤ ad.block := by
    intro h0 ad e
    have hown : (Value.slice B n d).ownBlock = some ad.block := by
      obtain ⟨g, cap, hv, _, _⟩ := ho.form h0
      injection hv with hA
      rw [hA] at e
      injection e with e
      rw [hA, ← e]
      rfl
    exact (ho.lt _ hown).1
  have hBlt : 0 < n → ∀ ad, B = some ad → ad.block ≠ k := by
    intro h0 ad e
    have := hnew h0 ad e
    omega
  have HNEW := Lib.hid hnew
  clear hnew
  have d0 : w2.cell? ⟨k, 0, none⟩ = some (.slice none 0 0) := hk2.cell 0
  have d1 : w2.cell? ⟨k, 1, none⟩ = some (.int .i64 (t : Int)) := hk2.cell 1
  have f0 := hk2.frozen 0
  have f1 := hk2.frozen 1
  have hsl := fun W => run_cut_h (P := Tryd.prog) 26 5 Tryd.underlying26 size5 A m c W n (by omega)
  have HN := Lib.hid hn
  have HK := Lib.hid hk2
  have HB := Lib.hid hB2
  have HBL := Lib.hid hBlt
  clear hk hk2 hB2 hBlt hn ho hg hb hS hSn hml
  have hwr : IntKind.i64.wrap ((t : Int) - (n : Int)) = (t : Int) - (n : Int) := IntWalk.i64_in _ (by omega)
  have hfin : Hid (∀ (v : Value), v = .int .i64 ((t - n : Nat) : Int) → Blk ((w2.setCell ⟨k, 0, none⟩ (.slice B n d)).setCell ⟨k, 1, none⟩ v) k 69 #[.slice B n d, .int .i64 ((t - n : Nat) : Int)] ∧ Sl ((w2.setCell ⟨k, 0, none⟩ (.slice B n d)).setCell ⟨k, 1, none⟩ v) B n (l.take n) ∧ Fr [k] w ((w2.setCell ⟨k, 0, none⟩ (.slice B n d)).setCell ⟨k, 1, none⟩ v)) := by
    rintro v rfl
    have hfs : Fr [k] w2 ((w2.setCell ⟨k, 0, none⟩ (.slice B n d)).setCell ⟨k, 1, none⟩ (.int .i64 ((t - n : Nat) : Int))) := ((Fr.refl [k] w2).setCell (.inl (by simp)) _).setCell (.inl (by simp)) _
    exact ⟨(HK.out.set_ 0 _).set_ 1 _, HB.out.fr' hfs (fun h0 ad e => by simpa using HBL.out h0 ad e), (hf2.more (by simp)).trans hfs⟩
  by_cases hlt : n < m
  · have hd : decide (n < m) = true := by simp; omega
    have hdi : decide ((n : Int) < (m : Int)) = true := by simp; omega
    go_enter Tryd.func73, Tryd.ntmps73
    go_wp2_with fail
    go_region_law (refine step_append_run (by rfl) _ _ _ _ (by rfl) (by rfl) (by rfl) hrun ?_)
    all_goals
      go_wp2_with fail
      go_ret2
      obtain ⟨x1, x2, x3⟩ := hfin.out (.int .i64 ((t : Int) - (n : Int))) (by congr 1; omega)
      exact ⟨n, B, d, by simp [fullIf, hd], HN, x1, x2, HNEW, x3⟩
  · have hd : decide (n < m) = false := by simp; omega
    have hdi : decide ((n : Int) < (m : Int)) = false := by simp; omega
    go_enter Tryd.func73, Tryd.ntmps73
    go_wp2_with fail
    go_region_law (refine step_append_run (by rfl) _ _ _ _ (by rfl) (by rfl) (by rfl) hrun ?_)
    all_goals
      go_wp2_with fail
      go_ret2
      obtain ⟨x1, x2, x3⟩ := hfin.out (.int .i64 ((t : Int) - (n : Int))) (by congr 1; omega)
      exact ⟨n, B, d, by simp [fullIf, hd], HN, x1, x2, HNEW, x3⟩

end Go.Proofs.YtkdjapbogchaeaaDoor
