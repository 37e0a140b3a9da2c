/- Laws on Peek. -/
import Derived.Test.YtbogmdgooifhnaaDoorParts
namespace Go.Proofs.YtbogmdgooifhnaaDoor
open Go.RowKit
set_option linter.unusedVariables false
attribute [local go_sem ↓] Go.wp_at_zero Go.wp_at_succ

/-- What a look returns. -/
def peek (l : List UInt8) (zs : List Nat) (k : Nat) : List UInt8 × Bool := (l.take (zs.getD k 0), decide (l.length < zs.getD k 0))
theorem peek_eq (l : List UInt8) (zs : List Nat) (k z : Nat) (h : zs[k]? = some z) : peek l zs k = (l.take z, decide (l.length < z)) := by
  obtain ⟨hk, rfl⟩ := List.getElem?_eq_some_iff.1 h
  simp [peek, List.getD, hk]

/-- The loop of PeekChunks. -/
def PeekRel (w : World) (l : List UInt8) (zs : List Nat) (pad : List UInt8) (b g : Nat) (v i : Value) (wr : World) : Prop :=
  ∃ k, k ≤ zs.length ∧ i = .int .i64 (k : Int) ∧ wr.ownsRow w.heap.size 35 3 v k (pcells (parts (peek l zs) k)) ∧ Buf wr b (some g) (l ++ pad) l.length 0 0 ∧ Fr [] w wr

set_option maxHeartbeats 1600000 in
theorem impl_PeekChunks (l : List UInt8) (A : Option Addr) (n c : Nat) (zs : List Nat) (w : World) (a : Addr) (hE : Eof w a) (hS : Slv w A n (zs.map fun z : Nat => Value.int .u16 (z : Int))) (hz : ∀ z ∈ zs, z ≤ 65535) (hN : l.length + n ≤ 1048576) :
    Calls Tryd.prog 30 #[.string ⟨l.toArray⟩, .slice A n c] w fun e w' => ∃ A' c' s, e = .returned (.tuple #[.slice A' n c', .string ⟨s.toArray⟩]) ∧ Rs w' A' n 3 (pcells (parts (peek l zs) n)) ∧ Hid (s = l) ∧ Fr [] w w' := by
  have hn : n = zs.length := by have := hS.1; simpa using this
  have HN := Lib.hid hn
  clear hn
  go_enter Tryd.func30, Tryd.ntmps30
  go_wp2_with fail
  refine (NewBufferString _ _ (by omega)).mono ?_
  rintro e w1 ⟨b, g, pad, rfl, hB, hf, hb, hg⟩
  go_wp2_with fail
  go_loopw [7, 15] (fun v i wr => PeekRel w l zs pad b g v i wr) (fun _ i _ => n - (intOf i).toNat)
  case atStart =>
    refine ⟨0, Nat.zero_le _, rfl, ?_, hB.alloc _, hf.alloc _⟩
    have := own_empty w1 35 3
    exact ⟨this.1, by
      rcases this.2 with h | ⟨x, cap, cur, hv, hb', rest⟩
      · exact .inl h
      · exact .inr ⟨x, cap, cur, hv, Nat.le_trans hf.size hb', rest⟩⟩
  case round =>
    obtain ⟨k, hk, rfl, ho, hB1, hf1⟩ := hrel
    obtain ⟨A', c', rfl⟩ := own_form ho
    by_cases hlt : k < n
    · obtain ⟨ad, u, rfl, hu, hc⟩ := (hS.fr_old hf1 (by simp)).at_ hlt
      rw [List.getElem?_map] at hu
      cases hzk : zs[k]? with
      | none => rw [hzk] at hu; cases hu
      | some z =>
        rw [hzk] at hu
        simp only [Option.map_some, Option.some.injEq] at hu
        subst hu
        have hz' : z ≤ 65535 := hz z (List.mem_of_getElem? hzk)
        have HZ := Lib.hid hzk
        clear hzk
        go_wp2_with fail
        by_cases hd : l.length - 0 < z
        · refine (Buffer_Peek_eof _ hB1 a (hE.fr hf1 (by simp)) z hd).mono ?_
          rintro e w2 ⟨A2, m2, c2, rfl, hS2, H2, k2, rfl⟩
          rw [unread_pad, List.drop_zero] at hS2
          go_wp2_with fail
          refine (impl_part_eof A2 m2 c2 l a _ hS2 ((hE.fr hf1 (by simp)).fr ((Fr.refl [] wr).drewN k2) (by simp))).mono ?_
          rintro e w3 ⟨rfl, hf3⟩
          have hf13 := (hf1.drewN k2).trans hf3
          have ho2 := hf3.own (own_drewN ho k2) (by simp)
          have hB3 := (hB1.drewN k2).fr hf3 (by simp) (by simp)
          have hsz : w.heap.size ≤ w3.heap.size := hf13.size
          obtain ⟨v', w', hrun, ho', hg', hb'⟩ := run_app (P := Tryd.prog) (w3.alloc (.cells #[.string ⟨l.toArray⟩, .bool true, .bool false] 35)) w.heap.size 23 23 23 35 _ 3 24 Tryd.underlying23 infoP rfl (by decide) _ _ _ (ho2.alloc _) _ 1 _
            (src_blk w3 #[.string ⟨l.toArray⟩, .bool true, .bool false] 35 35 23 Tryd.underlying23 3 rfl (by simp [Value.oneCell']) 1) (by omega) (by omega) (by simp; omega)
          go_wp2_with (at_builtin; refine wpList_append_run rfl _ _ _ _ rfl rfl rfl hrun ?_)
          go_roundw
          case rel =>
            refine ⟨k + 1, by have := HN.out; omega, by go_num, ?_, hB3.app ho2 hg' (by decide) (by decide), hf13.app ho2 hg'⟩
            rw [parts_succ, pcells_append, peek_eq l zs k z HZ.out, List.take_of_length_le (by omega), show decide (l.length < z) = true by simp; omega]
            exact ho'
          case measure => simp [intOf]; omega
        · refine (Buffer_Peek_ok _ hB1 z (by omega)).mono ?_
          rintro e w2 ⟨A2, m2, c2, rfl, hS2, H2, k2, rfl⟩
          rw [unread_pad, List.drop_zero] at hS2
          generalize hx : List.take z l = x at hS2
          have HX := Lib.hid hx
          clear hx
          go_wp2_with fail
          refine (impl_part_nil A2 m2 c2 x a _ hS2 ((hE.fr hf1 (by simp)).fr ((Fr.refl [] wr).drewN k2) (by simp))).mono ?_
          rintro e w3 ⟨rfl, hf3⟩
          have hf13 := (hf1.drewN k2).trans hf3
          have ho2 := hf3.own (own_drewN ho k2) (by simp)
          have hB3 := (hB1.drewN k2).fr hf3 (by simp) (by simp)
          have hsz : w.heap.size ≤ w3.heap.size := hf13.size
          obtain ⟨v', w', hrun, ho', hg', hb'⟩ := run_app (P := Tryd.prog) (w3.alloc (.cells #[.string ⟨x.toArray⟩, .bool false, .bool false] 35)) w.heap.size 23 23 23 35 _ 3 24 Tryd.underlying23 infoP rfl (by decide) _ _ _ (ho2.alloc _) _ 1 _
            (src_blk w3 #[.string ⟨x.toArray⟩, .bool false, .bool false] 35 35 23 Tryd.underlying23 3 rfl (by simp [Value.oneCell']) 1) (by omega) (by omega) (by simp; omega)
          go_wp2_with (at_builtin; refine wpList_append_run rfl _ _ _ _ rfl rfl rfl hrun ?_)
          go_roundw
          case rel =>
            refine ⟨k + 1, by have := HN.out; omega, by go_num, ?_, hB3.app ho2 hg' (by decide) (by decide), hf13.app ho2 hg'⟩
            rw [parts_succ, pcells_append, peek_eq l zs k z HZ.out, HX.out, show decide (l.length < z) = false by simp; omega]
            exact ho'
          case measure => simp [intOf]; omega
    · go_wp2_with fail
      refine (Buffer_String _ hB1).mono ?_
      rintro e w2 ⟨s, rfl, H2, k2, rfl⟩
      go_wp2_with fail
      go_ret2
      obtain rfl : k = n := by have := HN.out; omega
      refine ⟨_, _, _, rfl, own_rs (own_drewN ho k2), ?_, hf1.drewN _⟩
      show s = _
      rw [H2.out, unread_pad]
      rfl

/-- The loop of the reference's PeekChunks. -/
def PeekSRel (w : World) (l : List UInt8) (zs : List Nat) (v i : Value) (wr : World) : Prop :=
  ∃ k, k ≤ zs.length ∧ i = .int .i64 (k : Int) ∧ wr.ownsRow w.heap.size 62 2 v k (scells (parts (peek l zs) k)) ∧ Fr [] w wr

end Go.Proofs.YtbogmdgooifhnaaDoor
