/- The law on Next. -/
import Derived.Test.YtkdjapbogchaeaaDoorSpec
import Derived.Test.YtkdjapbogchaeaaDoorChunks
import Derived.Deep.RegionWith
import Derived.Deep.DrawnRows
import Derived.LoopTactic
namespace Go.Proofs.YtkdjapbogchaeaaDoor
open Go.RowKit
set_option linter.unusedVariables false
attribute [local go_sem ↓] Go.wp_at_zero Go.wp_at_succ

theorem infoS : (Tryd.prog.info? 9).map (fun i => (i.zero, i.size, i.bytes)) = some (some (.string ByteArray.empty), 1, 16) := by kernel_rfl

/-- The loop of NextChunks. -/
def NextRel (w : World) (l : List UInt8) (zs : List Nat) (pad : List UInt8) (b g : Nat) (v i : Value) (wr : World) : Prop :=
  ∃ k off lr, k ≤ zs.length ∧ i = .int .i64 (k : Int) ∧ wr.ownsRow w.heap.size 9 1 v k ((chunks l zs k).map sv) ∧ Buf wr b (some g) (l ++ pad) l.length off lr ∧ off = min (tot zs k) l.length ∧ Fr [] w wr

set_option maxHeartbeats 800000 in
theorem impl_NextChunks (l : List UInt8) (A : Option Addr) (n c : Nat) (zs : List Nat) (w : World) (hS : Slv w A n (zs.map fun z : Nat => Value.int .u16 (z : Int))) (hz : ∀ z ∈ zs, z ≤ 65535) (hN : l.length + n ≤ 1048576) :
    Calls Tryd.prog 18 #[.string ⟨l.toArray⟩, .slice A n c] w fun e w' => ∃ A' c' s, e = .returned (.tuple #[.slice A' n c', .string ⟨s.toArray⟩]) ∧ Slv w' A' n ((chunks l zs n).map sv) ∧ Hid (s = l.drop (tot zs n)) ∧ Fr [] w w' := by
  have hn : n = zs.length := by have := hS.1; simpa using this
  have HN := Lib.hid hn
  clear hn
  go_enter Tryd.func18, Tryd.ntmps18
  go_wp2_with fail
  refine (NewBufferString _ _ (by omega)).mono ?_
  rintro e w1 ⟨b, g, pad, rfl, hB, hf, hb, hg⟩
  go_wp2_with fail
  go_loopw [7, 15] (fun v i wr => NextRel w l zs pad b g v i wr) (fun _ i _ => n - (intOf i).toNat)
  case atStart =>
    refine ⟨0, 0, 0, Nat.zero_le _, rfl, ?_, hB.alloc _, by simp [tot_zero], hf.alloc _⟩
    have := own_empty w1 9 1
    rw [chunks]
    exact ⟨this.1, by
      rcases this.2 with h | ⟨x, cap, cur, hv, hb', rest⟩
      · exact .inl h
      · exact .inr ⟨x, cap, cur, hv, Nat.le_trans hf.size hb', rest⟩⟩
  case round =>
    obtain ⟨k, off, lr, hk, rfl, ho, hB1, hoff, hf1⟩ := hrel
    have HO := Lib.hid hoff
    clear hoff
    obtain ⟨A', c', rfl⟩ := own_form ho
    by_cases hlt : k < n
    · obtain ⟨ad, u, rfl, hu, hc⟩ := (hS.fr_old hf1 (by simp)).at_ hlt
      rw [List.getElem?_map] at hu
      cases hzk : zs[k]? with
      | none => rw [hzk] at hu; cases hu
      | some z =>
        rw [hzk] at hu
        simp only [Option.map_some, Option.some.injEq] at hu
        subst hu
        have hz' : z ≤ 65535 := hz z (List.mem_of_getElem? hzk)
        have HZ := Lib.hid hzk
        clear hzk
        go_wp2_with fail
        refine (Buffer_Next _ hB1 z).mono ?_
        rintro e w2 ⟨A2, m2, c2, off2, lr2, rfl, hS2, hB2, H2, hf2⟩
        rw [unread_pad] at hS2
        generalize hx : List.take z (List.drop off l) = x at hS2
        have HX := Lib.hid hx
        clear hx
        have hst := run_string_sl (P := Tryd.prog) hS2 26 9 5 c2 Tryd.underlying26 Tryd.underlying5 Tryd.underlying9
        have hne : ∀ y, (Value.slice A' k c').ownBlock = some y → y ∉ [b] := fun y hy => by
          have := own_ne_blk ho hB1.blk (by decide) y hy
          simpa using this
        have ho2 := hf2.own ho hne
        have hsz : w.heap.size ≤ w2.heap.size := Nat.le_trans hf1.size hf2.size
        obtain ⟨v', w', hrun, ho', hg', hb'⟩ := run_app (P := Tryd.prog) (w2.alloc (.cells #[.string ⟨x.toArray⟩] 9)) w.heap.size 30 30 30 9 _ 1 16 Tryd.underlying30 infoS rfl (by decide) _ _ _ (ho2.alloc _) _ 1 _
          (src_one w2 (.string ⟨x.toArray⟩) 9 9 30 Tryd.underlying30 rfl 1) (by omega) (by omega) (by simp; omega)
        go_wp2_with (at_builtin; refine wpList_append_run rfl _ _ _ _ rfl rfl rfl hrun ?_)
        go_roundw
        case rel =>
          refine ⟨k + 1, off2, lr2, by have := HN.out; omega, by go_num, ?_, ?_, ?_, ?_⟩
          · rw [chunks_succ, List.map_append]
            have e : chunk l zs k = x := by rw [chunk_eq l zs k z HZ.out, ← HX.out, HO.out, drop_min]
            rw [e]
            exact ho'
          · have hbb := own_ne_blk (ho2.alloc (.cells #[.string ⟨x.toArray⟩] 9)) (hB2.alloc _).blk (by decide)
            have hrr := own_ne_row (ho2.alloc (.cells #[.string ⟨x.toArray⟩] 9)) ((hB2.alloc _).some_ g rfl).2 (by decide)
            refine (hB2.alloc _).fr (Fr.of_grown hg') ?_ ?_
            · intro hm
              simp only [Option.mem_toList] at hm
              exact hbb b hm rfl
            · rintro y ⟨⟩ hm
              simp only [Option.mem_toList] at hm
              exact hrr g hm rfl
          · rw [tot_succ zs k z HZ.out]
            have := H2.out.1
            have := HO.out
            omega
          · refine ((hf1.trans_of hf2 (by simp; omega)).alloc _).grown hg' ?_
            intro y hy
            have := (ho2.alloc (.cells #[.string ⟨x.toArray⟩] 9)).lt y hy
            exact .inr this.1
        case measure => simp [intOf]; omega
    · go_wp2_with fail
      refine (Buffer_String _ hB1).mono ?_
      rintro e w2 ⟨s, rfl, H2, k2, rfl⟩
      go_wp2_with fail
      go_ret2
      obtain rfl : k = n := by have := HN.out; omega
      refine ⟨_, _, _, rfl, own_slv (own_drewN ho k2), ?_, hf1.drewN _⟩
      show s = _
      rw [H2.out, unread_pad, HO.out, drop_min]

/-- The loop of the reference's NextChunks. -/
def NextSRel (w : World) (l : List UInt8) (zs : List Nat) (s v i : Value) (wr : World) : Prop :=
  ∃ k, k ≤ zs.length ∧ i = .int .i64 (k : Int) ∧ s = .string ⟨(l.drop (tot zs k)).toArray⟩ ∧ wr.ownsRow w.heap.size 9 1 v k ((chunks l zs k).map sv) ∧ Fr [] w wr

end Go.Proofs.YtkdjapbogchaeaaDoor
