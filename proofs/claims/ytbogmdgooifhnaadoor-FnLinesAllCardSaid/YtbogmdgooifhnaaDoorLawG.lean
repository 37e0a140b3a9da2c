/- Laws on Read. -/
import Derived.Test.YtbogmdgooifhnaaDoorLines
import Derived.Test.YtbogmdgooifhnaaDoorParts
import Derived.Deep.OwnRows
namespace Go.Proofs.YtbogmdgooifhnaaDoor
open Go.RowKit
set_option linter.unusedVariables false
attribute [local go_sem ↓] Go.wp_at_zero Go.wp_at_succ

theorem impl_part (A : Option Addr) (n c : Nat) (l : List UInt8) (a : Addr) (eo : Bool) (w : World) (hS : Sl w A n l) (hE : Eof w a) :
    Calls Tryd.prog 35 #[.slice A n c, ev a eo] w fun e w' => e = .returned (.agg #[.string ⟨l.toArray⟩, .bool eo, .bool false]) ∧ Fr [] w w' := by
  cases eo
  · exact impl_part_nil A n c l a w hS hE
  · exact impl_part_eof A n c l a w hS hE

/-- What the k-th read returns. -/
def readc (l : List UInt8) (zs : List Nat) (k : Nat) : List UInt8 × Bool := (chunk l zs k, (l.drop (tot zs k)).isEmpty && decide (0 < zs.getD k 0))
theorem readc_eq (l : List UInt8) (zs : List Nat) (k z : Nat) (h : zs[k]? = some z) : readc l zs k = ((l.drop (tot zs k)).take z, (l.drop (tot zs k)).isEmpty && decide (0 < z)) := by
  have := chunk_eq l zs k z h
  obtain ⟨hk, rfl⟩ := List.getElem?_eq_some_iff.1 h
  rw [readc, this]
  simp [List.getD, hk]

theorem row_made (w : World) (n : Nat) : Row (w.alloc (.cells (madeCells #[.int .u8 0] n) 5)) w.heap.size (List.replicate n 0) := by
  refine ⟨0, 0, ?_, .inl (Nat.le_refl _)⟩
  rw [heap_alloc_new]
  congr 2
  apply Array.ext
  · simp [madeCells, bvs]
  · intro i h1 h2
    simp [madeCells, bvs, bv, Nat.mod_one]

/-- The loop of ReadChunks. -/
def ReadRel (w : World) (l : List UInt8) (zs : List Nat) (pad : List UInt8) (b g : Nat) (v i : Value) (wr : World) : Prop :=
  ∃ k len off lr, k ≤ zs.length ∧ i = .int .i64 (k : Int) ∧ wr.ownsRow w.heap.size 35 3 v k (pcells (parts (readc l zs) k)) ∧ Buf wr b (some g) (l ++ pad) len off lr ∧ unread (l ++ pad) len off = l.drop (tot zs k) ∧ Fr [] w wr

set_option maxHeartbeats 1600000 in
theorem impl_ReadChunks (l : List UInt8) (A : Option Addr) (n c : Nat) (zs : List Nat) (w : World) (a : Addr) (hE : Eof w a) (hS : Slv w A n (zs.map fun z : Nat => Value.int .u16 (z : Int))) (hz : ∀ z ∈ zs, z ≤ 65535) (hN : l.length + n ≤ 1048576) :
    Calls Tryd.prog 26 #[.string ⟨l.toArray⟩, .slice A n c] w fun e w' => ∃ A' c' s, e = .returned (.tuple #[.slice A' n c', .string ⟨s.toArray⟩]) ∧ Rs w' A' n 3 (pcells (parts (readc l zs) n)) ∧ Hid (s = l.drop (tot zs n)) ∧ Fr [] w w' := by
  have hn : n = zs.length := by have := hS.1; simpa using this
  have HN := Lib.hid hn
  clear hn
  have hlt0 := hE.lt
  go_enter Tryd.func26, Tryd.ntmps26
  go_wp2_with fail
  refine (NewBufferString _ _ (by omega)).mono ?_
  rintro e w1 ⟨b, g, pad, rfl, hB, hf, hb, hg⟩
  go_wp2_with fail
  go_loopw [7, 18] (fun v i wr => ReadRel w l zs pad b g v i wr) (fun _ i _ => n - (intOf i).toNat)
  case atStart =>
    refine ⟨0, _, 0, 0, Nat.zero_le _, rfl, ?_, hB.alloc _, by rw [unread_pad, tot_zero], hf.alloc _⟩
    have := own_empty w1 35 3
    exact ⟨this.1, by
      rcases this.2 with h | ⟨x, cap, cur, hv, hb', rest⟩
      · exact .inl h
      · exact .inr ⟨x, cap, cur, hv, Nat.le_trans hf.size hb', rest⟩⟩
  case round =>
    obtain ⟨k, len, off, lr, hk, rfl, ho, hB1, hu1, hf1⟩ := hrel
    have HU := Lib.hid hu1
    clear hu1
    obtain ⟨A', c', rfl⟩ := own_form ho
    by_cases hlt : k < n
    · obtain ⟨ad, u, rfl, hu, hc⟩ := (hS.fr_old hf1 (by simp)).at_ hlt
      rw [List.getElem?_map] at hu
      cases hzk : zs[k]? with
      | none => rw [hzk] at hu; cases hu
      | some z =>
        rw [hzk] at hu
        simp only [Option.map_some, Option.some.injEq] at hu
        subst hu
        have hz' : z ≤ 65535 := hz z (List.mem_of_getElem? hzk)
        have HZ := Lib.hid hzk
        clear hzk
        have hmk := run_make_row' (P := Tryd.prog) 22 5 (.int .u8 0) 1 Tryd.underlying22 infoB rfl .u16 .u16 z (by omega) (by omega)
        have hR := row_made wr z
        have hbl := hB1.blk.lt
        have hgl := (hB1.some_ g rfl).2.lt
        have hRl : (List.replicate z (0 : UInt8)).length = z := by simp
        go_wp2_with fail
        have hrd := Buffer_Read _ (hB1.alloc (.cells (madeCells #[.int .u8 0] z) 5)) wr.heap.size _ hR (by omega) (by simp; omega) (by simp; omega) a ((hE.fr hf1 (by simp)).fr ((Fr.refl [] wr).alloc _) (by simp)) (by omega)
        rw [hRl] at hrd
        refine hrd.mono ?_
        rintro e w2 ⟨m, eo, len2, off2, lr2, x, rfl, hmz, hS2, hB2, H2, hf2⟩
        have hfw : Fr [b] wr w2 := ((Fr.refl [b] wr).alloc _).trans_of hf2 (by simp)
        have hsl := fun W => run_cut_h (P := Tryd.prog) 22 5 Tryd.underlying22 size5 (some ⟨wr.heap.size, 0, none⟩) z z W m hmz
        go_wp2_with fail
        refine (impl_part _ m z x a eo _ hS2 ((hE.fr hf1 (by simp)).fr hfw (by simp; omega))).mono ?_
        rintro e w3 ⟨rfl, hf3⟩
        have hne : ∀ y, (Value.slice A' k c').ownBlock = some y → y ∉ [b] := fun y hy => by
          have := own_ne_blk ho hB1.blk (by decide) y hy
          simpa using this
        have hf13 : Fr [] w w3 := (hf1.trans_of hfw (by simp; omega)).trans hf3
        have ho2 := hf3.own (hfw.own ho hne) (by simp)
        have hB3 := hB2.fr hf3 (by simp) (by simp)
        have hsz : w.heap.size ≤ w3.heap.size := hf13.size
        obtain ⟨v', w', hrun, ho', hg', hb'⟩ := run_app (P := Tryd.prog) (w3.alloc (.cells #[.string ⟨x.toArray⟩, .bool eo, .bool false] 35)) w.heap.size 23 23 23 35 _ 3 24 Tryd.underlying23 infoP rfl (by decide) _ _ _ (ho2.alloc _) _ 1 _
          (src_blk w3 #[.string ⟨x.toArray⟩, .bool eo, .bool false] 35 35 23 Tryd.underlying23 3 rfl (by simp [Value.oneCell']) 1) (by omega) (by omega) (by simp; omega)
        go_wp2_with (at_builtin; refine wpList_append_run rfl _ _ _ _ rfl rfl rfl hrun ?_)
        go_roundw
        case rel =>
          obtain ⟨h1, h2, h3⟩ := H2.out
          rw [HU.out] at h1 h2 h3
          refine ⟨k + 1, len2, off2, lr2, by have := HN.out; omega, by go_num, ?_, hB3.app ho2 hg' (by decide) (by decide), ?_, hf13.app ho2 hg'⟩
          · rw [parts_succ, pcells_append, readc_eq l zs k z HZ.out, ← h1, ← h2]
            exact ho'
          · rw [h3, List.drop_drop, tot_succ zs k z HZ.out]
        case measure => simp [intOf]; omega
    · go_wp2_with fail
      refine (Buffer_String _ hB1).mono ?_
      rintro e w2 ⟨s, rfl, H2, k2, rfl⟩
      go_wp2_with fail
      go_ret2
      obtain rfl : k = n := by have := HN.out; omega
      refine ⟨_, _, _, rfl, own_rs (own_drewN ho k2), ?_, hf1.drewN _⟩
      show s = _
      rw [H2.out, HU.out]

/-- The loop of the reference's ReadChunks. -/
def ReadSRel (w : World) (l : List UInt8) (zs : List Nat) (s v i : Value) (wr : World) : Prop :=
  ∃ k, k ≤ zs.length ∧ i = .int .i64 (k : Int) ∧ s = .string ⟨(l.drop (tot zs k)).toArray⟩ ∧ wr.ownsRow w.heap.size 62 2 v k (scells (parts (readc l zs) k)) ∧ Fr [] w wr

set_option maxHeartbeats 800000 in
theorem spec_ReadChunks (l : List UInt8) (A : Option Addr) (n c : Nat) (zs : List Nat) (w : World) (hS : Slv w A n (zs.map fun z : Nat => Value.int .u16 (z : Int))) (hz : ∀ z ∈ zs, z ≤ 65535) (hN : l.length + n ≤ 1048576) :
    Calls Tryd.prog 27 #[.string ⟨l.toArray⟩, .slice A n c] w fun e w' => ∃ A' c' s, e = .returned (.tuple #[.slice A' n c', .string ⟨s.toArray⟩]) ∧ Rs w' A' n 2 (scells (parts (readc l zs) n)) ∧ Hid (s = l.drop (tot zs n)) ∧ Fr [] w w' := by
  have hn : n = zs.length := by have := hS.1; simpa using this
  have HN := Lib.hid hn
  clear hn
  go_enter Tryd.func27, Tryd.ntmps27
  go_wp2_with fail
  go_loopw [0, 6, 12] (fun s v i wr => ReadSRel w l zs s v i wr) (fun _ _ i _ => n - (intOf i).toNat)
  case atStart =>
    exact ⟨0, Nat.zero_le _, rfl, by simp [tot_zero], own_empty w 62 2, (Fr.refl [] w).alloc _⟩
  case round =>
    obtain ⟨k, hk, rfl, rfl, ho, hf1⟩ := hrel
    obtain ⟨A', c', rfl⟩ := own_form ho
    by_cases hlt : k < n
    · obtain ⟨ad, u, rfl, hu, hc⟩ := (hS.fr_old hf1 (by simp)).at_ hlt
      rw [List.getElem?_map] at hu
      cases hzk : zs[k]? with
      | none => rw [hzk] at hu; cases hu
      | some z =>
        rw [hzk] at hu
        simp only [Option.map_some, Option.some.injEq] at hu
        subst hu
        have hz' : z ≤ 65535 := hz z (List.mem_of_getElem? hzk)
        have HZ := Lib.hid hzk
        clear hzk
        have hdl : (l.drop (tot zs k)).length ≤ 1048576 := by simp; omega
        generalize hd : l.drop (tot zs k) = d at *
        have HD := Lib.hid hd
        clear hd
        go_wp2_with fail
        refine (spec_First d z _ (by omega)).mono ?_
        rintro e w2 ⟨rfl, rfl⟩
        have hsz : w.heap.size ≤ wr.heap.size := hf1.size
        generalize hx : d.take z = x
        have HX := Lib.hid hx
        clear hx
        obtain ⟨eo, heo⟩ : ∃ eo, (d.isEmpty && decide (0 < z)) = eo := ⟨_, rfl⟩
        have HEO := Lib.hid heo
        obtain ⟨v', w', hrun, ho', hg', hb'⟩ := run_app (P := Tryd.prog) (wr.alloc (.cells #[.string ⟨x.toArray⟩, .bool eo] 62)) w.heap.size 26 26 26 62 _ 2 24 Tryd.underlying26 infoQ rfl (by decide) _ _ _ (ho.alloc _) _ 1 _
          (src_blk wr #[.string ⟨x.toArray⟩, .bool eo] 62 62 26 Tryd.underlying26 2 rfl (by simp [Value.oneCell']) 1) (by omega) (by omega) (by simp; omega)
        have hcase : (d = [] ∧ decide (0 < z) = eo) ∨ (∃ y t, d = y :: t ∧ eo = false) := by
          cases d with
          | nil => simpa using heo
          | cons y t => simpa using heo.symm
        clear heo
        have HFrom := Lib.hid (fun W => spec_From d z W (by omega))
        rcases hcase with ⟨rfl, rfl⟩ | ⟨y, t, rfl, rfl⟩
        all_goals
          go_wp2_with (at_builtin; refine wpList_append_run rfl _ _ _ _ rfl rfl rfl hrun ?_)
          refine (HFrom.out _).mono ?_
          rintro e w2 ⟨rfl, rfl⟩
          go_wp2_with fail
          go_roundw
          case rel =>
            refine ⟨k + 1, by have := HN.out; omega, by go_num, ?_, ?_, ?_⟩
            · rw [tot_succ zs k z HZ.out, ← List.drop_drop, HD.out]; try simp
            · rw [parts_succ, scells_append, readc_eq l zs k z HZ.out, HD.out, HX.out, HEO.out]
              exact ho'
            · exact hf1.app ho hg'
          case measure => simp [intOf]; omega
    · go_wp2_with fail
      go_ret2
      obtain rfl : k = n := by have := HN.out; omega
      exact ⟨_, _, _, rfl, own_rs ho, rfl, hf1⟩

end Go.Proofs.YtbogmdgooifhnaaDoor
