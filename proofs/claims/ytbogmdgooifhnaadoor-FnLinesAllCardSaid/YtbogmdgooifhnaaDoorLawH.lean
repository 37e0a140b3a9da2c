/- Laws on ReadByte. -/
import Derived.Test.YtbogmdgooifhnaaDoorLawG
namespace Go.Proofs.YtbogmdgooifhnaaDoor
open Go.RowKit
set_option linter.unusedVariables false
attribute [local go_sem ↓] Go.wp_at_zero Go.wp_at_succ

/-- What the k-th ReadByte returns. -/
def single (l : List UInt8) (k : Nat) : List UInt8 × Bool := ((l.drop k).take 1, (l.drop k).isEmpty)

/-- The loop of ReadSingles. -/
def SingRel (w : World) (l : List UInt8) (n : Nat) (pad : List UInt8) (b g : Nat) (v i : Value) (wr : World) : Prop :=
  ∃ k len off lr, k ≤ n ∧ i = .int .u16 (k : Int) ∧ wr.ownsRow w.heap.size 35 3 v k (pcells (parts (single l) k)) ∧ Buf wr b (some g) (l ++ pad) len off lr ∧ unread (l ++ pad) len off = l.drop k ∧ Fr [] w wr

set_option maxHeartbeats 1600000 in
theorem impl_ReadSingles (l : List UInt8) (n : Nat) (w : World) (a : Addr) (hE : Eof w a) (hn : n ≤ 65535) (hl : l.length ≤ 9223372036854775807) :
    Calls Tryd.prog 21 #[.string ⟨l.toArray⟩, .int .u16 (n : Int)] w fun e w' => ∃ A' c' s, e = .returned (.tuple #[.slice A' n c', .string ⟨s.toArray⟩]) ∧ Rs w' A' n 3 (pcells (parts (single l) n)) ∧ Hid (s = l.drop n) ∧ Fr [] w w' := by
  have hlt0 := hE.lt
  go_enter Tryd.func21, Tryd.ntmps21
  go_wp2_with fail
  refine (NewBufferString _ _ (by omega)).mono ?_
  rintro e w1 ⟨b, g, pad, rfl, hB, hf, hb, hg⟩
  go_wp2_with fail
  go_loopw [7, 15] (fun v i wr => SingRel w l n pad b g v i wr) (fun _ i _ => n - (intOf i).toNat)
  case atStart =>
    refine ⟨0, _, 0, 0, Nat.zero_le _, rfl, ?_, hB.alloc _, by rw [unread_pad], hf.alloc _⟩
    have := own_empty w1 35 3
    exact ⟨this.1, by
      rcases this.2 with h | ⟨x, cap, cur, hv, hb', rest⟩
      · exact .inl h
      · exact .inr ⟨x, cap, cur, hv, Nat.le_trans hf.size hb', rest⟩⟩
  case round =>
    obtain ⟨k, len, off, lr, hk, rfl, ho, hB1, hu1, hf1⟩ := hrel
    have HU := Lib.hid hu1
    obtain ⟨A', c', rfl⟩ := own_form ho
    have hne : ∀ y, (Value.slice A' k c').ownBlock = some y → y ∉ [b] := fun y hy => by
      have := own_ne_blk ho hB1.blk (by decide) y hy
      simpa using this
    have hE1 := hE.fr hf1 (by simp)
    by_cases hlt : k < n
    · go_wp2_with fail
      have hlen := unread_length (off := off) hB1.len_le
      have hol := hB1.off_le
      cases hd : l.drop k with
      | nil =>
        have he : len = off := by rw [hu1, hd] at hlen; simp at hlen; omega
        have HD := Lib.hid hd
        clear hlen hol hd hu1
        refine (Buffer_ReadByte_eof _ hB1 he a hE1 (by omega)).mono ?_
        clear he
        rintro e w2 ⟨rfl, hB2, hf2⟩
        have hE2 := hE1.fr hf2 (by simp; omega)
        go_wp2_with fail
        refine (impl_part_eof _ 0 0 [] a _ ⟨rfl, Rd.nil _ _⟩ (hE2.fr ((Fr.refl [] w2).alloc _) (by simp))).mono ?_
        rintro e w3 ⟨rfl, hf3⟩
        have hf23 : Fr [b] wr w3 := (hf2.alloc (.cells #[] 5)).trans_of hf3 (by simp)
        have hf13 : Fr [] w w3 := hf1.trans_of hf23 (by simp; omega)
        have ho2 := hf23.own ho hne
        have hB3 := (hB2.alloc (.cells #[] 5)).fr hf3 (by simp) (by simp)
        have hsz : w.heap.size ≤ w3.heap.size := hf13.size
        obtain ⟨v', w', hrun, ho', hg', hb'⟩ := run_app (P := Tryd.prog) (w3.alloc (.cells #[.string ⟨[].toArray⟩, .bool true, .bool false] 35)) w.heap.size 23 23 23 35 _ 3 24 Tryd.underlying23 infoP rfl (by decide) _ _ _ (ho2.alloc _) _ 1 _
          (src_blk w3 #[.string ⟨[].toArray⟩, .bool true, .bool false] 35 35 23 Tryd.underlying23 3 rfl (by simp [Value.oneCell']) 1) (by omega) (by omega) (by simp; omega)
        go_wp2_with (at_builtin; refine wpList_append_run rfl _ _ _ _ rfl rfl rfl hrun ?_)
        go_roundw
        case rel =>
          refine ⟨k + 1, 0, 0, 0, by omega, by go_num, ?_, hB3.app ho2 hg' (by decide) (by decide), ?_, hf13.app ho2 hg'⟩
          · rw [parts_succ, pcells_append, single, HD.out]
            exact ho'
          · rw [← List.drop_drop, HD.out]
            simp [unread]
        case measure => simp [intOf]; omega
      | cons x t =>
        have HD := Lib.hid hd
        rw [hd] at hu1
        clear hlen hd
        refine (Buffer_ReadByte_some _ hB1 x t hu1).mono ?_
        clear hu1
        rintro e w2 ⟨rfl, hB2, hf2⟩
        have hE2 := hE1.fr hf2 (by simp; omega)
        obtain ⟨v', w', hrun, ho', hg', hb'⟩ := run_app (P := Tryd.prog) ((w2.alloc (.cells #[] 5)).alloc (.cells #[.int .u8 (x.toNat : Int)] 5)) w2.heap.size 22 22 22 5 _ 1 1 Tryd.underlying22 infoB rfl (by decide) _ 0 [] ((own_empty w2 5 1).alloc _) _ 1 _
          (src_one (w2.alloc (.cells #[] 5)) (.int .u8 (x.toNat : Int)) 5 5 22 Tryd.underlying22 rfl 1) (by omega) (by omega) (by simp; omega)
        obtain ⟨A2, c2, rfl⟩ := own_form ho'
        rw [show (w2.alloc (.cells #[] 5)).heap.size = w2.heap.size + 1 by simp] at hrun
        have hfA : Fr [b] wr w' := ((hf2.alloc (.cells #[] 5)).alloc _).grown hg' (fun y hy => by simp [Value.ownBlock] at hy; subst hy; right; exact hf2.size)
        have hSx : Sl w' A2 1 [x] := own_sl (l := [x]) ho'
        have hfB : Fr [w2.heap.size] ((w2.alloc (.cells #[] 5)).alloc (.cells #[.int .u8 (x.toNat : Int)] 5)) w' := by
          have := Fr.of_grown hg'
          simpa [Value.ownBlock] using this
        have hB2' := ((hB2.alloc (.cells #[] 5)).alloc (.cells #[.int .u8 (x.toNat : Int)] 5)).fr hfB (by have := hB2.blk.lt; simp; omega) (fun y e => by cases e; have := (hB2.some_ g rfl).2.lt; simp; omega)
        go_wp2_with (at_builtin; refine wpList_append_run rfl _ _ _ _ rfl rfl rfl hrun ?_)
        refine (impl_part_nil _ 1 c2 [x] a _ hSx (hE1.fr hfA (by simp; omega))).mono ?_
        rintro e w3 ⟨rfl, hf3⟩
        have hf23 : Fr [b] wr w3 := hfA.trans_of hf3 (by simp)
        have hf13 : Fr [] w w3 := hf1.trans_of hf23 (by simp; omega)
        have ho2 := hf23.own ho hne
        have hB3 := hB2'.fr hf3 (by simp) (by simp)
        have hsz : w.heap.size ≤ w3.heap.size := hf13.size
        clear hrun
        obtain ⟨v', w', hrun, ho', hg', hb'⟩ := run_app (P := Tryd.prog) (w3.alloc (.cells #[.string ⟨[x].toArray⟩, .bool false, .bool false] 35)) w.heap.size 23 23 23 35 _ 3 24 Tryd.underlying23 infoP rfl (by decide) _ _ _ (ho2.alloc _) _ 1 _
          (src_blk w3 #[.string ⟨[x].toArray⟩, .bool false, .bool false] 35 35 23 Tryd.underlying23 3 rfl (by simp [Value.oneCell']) 1) (by omega) (by omega) (by simp; omega)
        go_wp2_with (at_builtin; refine wpList_append_run rfl _ _ _ _ rfl rfl rfl hrun ?_)
        go_roundw
        case rel =>
          refine ⟨k + 1, len, off + 1, -1, by omega, by go_num, ?_, hB3.app ho2 hg' (by decide) (by decide), ?_, hf13.app ho2 hg'⟩
          · rw [parts_succ, pcells_append, single, HD.out]
            exact ho'
          · rw [← List.drop_drop, HD.out]
            have := HU.out
            rw [HD.out] at this
            rw [show unread (l ++ pad) len (off + 1) = (unread (l ++ pad) len off).drop 1 by simp [unread, List.drop_drop], this]
        case measure => simp [intOf]; omega
    · go_wp2_with fail
      refine (Buffer_String _ hB1).mono ?_
      rintro e w2 ⟨s, rfl, H2, k2, rfl⟩
      go_wp2_with fail
      go_ret2
      obtain rfl : k = n := by omega
      refine ⟨_, _, _, rfl, own_rs (own_drewN ho k2), ?_, hf1.drewN _⟩
      show s = _
      rw [H2.out, HU.out]

/-- The loop of the reference's ReadSingles. -/
def SingSRel (w : World) (l : List UInt8) (n : Nat) (s i v : Value) (wr : World) : Prop :=
  ∃ k, k ≤ n ∧ i = .int .u16 ((n - k : Nat) : Int) ∧ s = .string ⟨(l.drop k).toArray⟩ ∧ wr.ownsRow w.heap.size 62 2 v k (scells (parts (single l) k)) ∧ Fr [] w wr

set_option maxHeartbeats 800000 in
theorem spec_ReadSingles (l : List UInt8) (n : Nat) (w : World) (hn : n ≤ 65535) (hl : l.length ≤ 9223372036854775807) :
    Calls Tryd.prog 22 #[.string ⟨l.toArray⟩, .int .u16 (n : Int)] w fun e w' => ∃ A' c' s, e = .returned (.tuple #[.slice A' n c', .string ⟨s.toArray⟩]) ∧ Rs w' A' n 2 (scells (parts (single l) n)) ∧ Hid (s = l.drop n) ∧ Fr [] w w' := by
  go_enter Tryd.func22, Tryd.ntmps22
  go_wp2_with fail
  go_loopw [0, 1, 6] (fun s i v wr => SingSRel w l n s i v wr) (fun _ i _ _ => (intOf i).toNat)
  case atStart =>
    exact ⟨0, Nat.zero_le _, rfl, rfl, own_empty w 62 2, (Fr.refl [] w).alloc _⟩
  case round =>
    obtain ⟨k, hk, rfl, rfl, ho, hf1⟩ := hrel
    obtain ⟨A', c', rfl⟩ := own_form ho
    by_cases hlt : k < n
    · have hdl : (l.drop k).length ≤ 9223372036854775807 := by simp; omega
      generalize hd : l.drop k = d at *
      have HD := Lib.hid hd
      clear hd
      generalize hnk : n - k = nk at *
      have hnk0 : 0 < nk := by omega
      have hnk1 : nk ≤ 65535 := by omega
      have HNK := Lib.hid hnk
      clear hnk
      have hF1 := spec_First d 1
      have hF2 := spec_From d 1
      simp only [Int.natCast_one] at hF1 hF2
      have HF1 := Lib.hid hF1
      have HF2 := Lib.hid (fun W => hF2 W (by omega))
      clear hF1 hF2
      go_wp2_with fail
      refine (HF1.out _ (by omega)).mono ?_
      rintro e w2 ⟨rfl, rfl⟩
      have hsz : w.heap.size ≤ wr.heap.size := hf1.size
      generalize hx : d.take 1 = x
      have HX := Lib.hid hx
      clear hx
      obtain ⟨eo, heo⟩ : ∃ eo, d.isEmpty = eo := ⟨_, rfl⟩
      have HEO := Lib.hid heo
      obtain ⟨v', w', hrun, ho', hg', hb'⟩ := run_app (P := Tryd.prog) (wr.alloc (.cells #[.string ⟨x.toArray⟩, .bool eo] 62)) w.heap.size 26 26 26 62 _ 2 24 Tryd.underlying26 infoQ rfl (by decide) _ _ _ (ho.alloc _) _ 1 _
        (src_blk wr #[.string ⟨x.toArray⟩, .bool eo] 62 62 26 Tryd.underlying26 2 rfl (by simp [Value.oneCell']) 1) (by omega) (by omega) (by simp; omega)
      have hcase : (d = [] ∧ eo = true) ∨ (∃ y t, d = y :: t ∧ eo = false) := by
        cases d with
        | nil => simpa using heo.symm
        | cons y t => simpa using heo.symm
      clear heo
      rcases hcase with ⟨rfl, rfl⟩ | ⟨y, t, rfl, rfl⟩
      all_goals
        go_wp2_with (at_builtin; refine wpList_append_run rfl _ _ _ _ rfl rfl rfl hrun ?_)
        refine (HF2.out _).mono ?_
        rintro e w2 ⟨rfl, rfl⟩
        go_wp2_with fail
        go_roundw
        case rel =>
          refine ⟨k + 1, by omega, ?_, ?_, ?_, ?_⟩
          · have := HNK.out; congr 1; omega
          · rw [← List.drop_drop, HD.out]; try simp
          · rw [parts_succ, scells_append, single, HD.out, HX.out, HEO.out]
            exact ho'
          · exact hf1.app ho hg'
        case measure => simp [intOf]; omega
    · have hnk : n - k = 0 := by omega
      go_wp2_with fail
      go_ret2
      obtain rfl : k = n := by omega
      exact ⟨_, _, _, rfl, own_rs ho, rfl, hf1⟩

end Go.Proofs.YtbogmdgooifhnaaDoor
