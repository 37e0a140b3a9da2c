/- Buffers: written with slices, and by the slice of unused bytes. -/
import Derived.Test.YtkdjapbogchaeaaDoorApp0
import Derived.Test.YtkdjapbogchaeaaDoorLawW
import Derived.Test.YtkdjapbogchaeaaDoorLawZ
namespace Go.Proofs.YtkdjapbogchaeaaDoor
open Go.RowKit
set_option linter.unusedVariables false
attribute [local go_sem ↓] Go.wp_at_zero Go.wp_at_succ

theorem NewBuffer_of (w : World) (g : Nat) (row : List UInt8) (n : Nat) (hR : Row w g row) (hn : n ≤ row.length) (hc : row.length ≤ 9223372036854775807) :
    Calls Tryd.prog 42 #[.slice (some ⟨g, 0, none⟩) n row.length] w fun e w' => ∃ b, e = .returned (.pointer (some ⟨b, 0, none⟩)) ∧ Buf w' b (some g) row n 0 0 ∧ Fr [] w w' ∧ w.heap.size ≤ b := by
  have HR := Lib.hid hR
  clear hR
  go_enter Tryd.func42, Tryd.ntmps42
  go_wp2
  go_ret
  refine ⟨_, rfl, ⟨Blk.new w 85 _, Nat.zero_le _, hn, hc, by simp, ?_⟩, (Fr.refl [] w).alloc _, by omega⟩
  rintro x ⟨⟩
  have := HR.out.lt
  exact ⟨by omega, HR.out.alloc _⟩

set_option maxHeartbeats 1600000 in
theorem impl_WriteSlices (A0 : Option Addr) (n0 c0 : Nat) (l : List UInt8) (A : Option Addr) (n c : Nat) (ls : List (List UInt8)) (w : World) (hS0 : Sl w A0 n0 l) (hS : Sls w A n ls) (hN : n0 + (ls.map List.length).sum + n ≤ 2097152) :
    Calls Tryd.prog 21 #[.slice A0 n0 c0, .slice A n c] w fun e w' => ∃ A' c' s, e = .returned (.tuple #[.slice A' n c', .string ⟨s.toArray⟩]) ∧ Slv w' A' n ((ls.map List.length).map iv) ∧ Hid (s = l ++ ls.flatten) ∧ Fr [] w w' := by
  have HN := Lib.hid hS.len
  have hl0 := hS0.1
  obtain ⟨g0, pad, wa, hrun0, hR0, hfa, hg0, hcl⟩ := run_app_new (P := Tryd.prog) (w.alloc (.cells #[] 5)) 26 26 26 Tryd.underlying26 info5g w.heap.size ⟨0, 0, heap_alloc_new w _, .inl (Nat.le_refl _)⟩ (.slice A0 n0 c0) n0 l ((hS0.fr_old' ((Fr.refl [] w).alloc _)).src Tryd.underlying26 c0) (by omega)
  have hfwa := ((Fr.refl [] w).alloc (.cells #[] 5)).trans hfa
  have hgw : w.heap.size ≤ g0 := by rcases hg0 with h | h; omega; simp at h; omega
  have hnb0 := NewBuffer_of wa g0 (l ++ pad) n0 hR0 (by simp; omega) hcl
  generalize (l ++ pad).length = C0 at hrun0 hnb0
  have hnb := Lib.hid hnb0
  clear hnb0 hcl
  have HL0 := Lib.hid hl0
  clear hR0 hl0
  go_enter Tryd.func21, Tryd.ntmps21
  go_wp2_with (at_builtin; refine wpList_append_run rfl _ _ _ _ rfl rfl rfl hrun0 ?_)
  refine hnb.out.mono ?_
  rintro e w1 ⟨b, rfl, hB, hf, hb⟩
  have hb' : w.heap.size ≤ b := Nat.le_trans hfwa.size hb
  have hfw1 := hfwa.trans hf
  have hn0 := HL0.out
  subst hn0
  go_wp2_with fail
  go_loopw [7, 19] (fun v i wr => WstRel w b l ls v i wr) (fun _ i _ => n - (intOf i).toNat)
  case atStart =>
    exact ⟨0, _, _, _, _, Nat.zero_le _, rfl, own_empty_from w1 w.heap.size 3 1 hfw1.size, ⟨hB.alloc _, by rw [unread_pad]; simp, fun x e => by injection e with e; omega, hb'⟩, hfw1.alloc _⟩
  case round =>
    obtain ⟨k, g, row, len, lr, hk, rfl, ho, hB, hf1⟩ := hrel
    obtain ⟨A', c', rfl⟩ := own_form ho
    by_cases hlt : k < n
    · obtain ⟨ad0, B0, m0, d0, x0, hA0, hx0, hc0, hB0⟩ := hS.at_ hlt
      obtain ⟨ad, B, m, d, x, rfl, hx, hc, hBs⟩ := (hS.fr_old hf1 (by simp)).at_ hlt
      have hsum := len_le_sum ls k x hx
      have hml : m = x.length := hBs.1
      subst hml
      have hold : 0 < x.length → ∀ bd, B = some bd → bd.block < w.heap.size := by
        intro h0 bd e
        injection hA0 with hA0
        subst hA0
        rw [hf1.cell (p := ad.add k) (block_lt_of_cell hc0) (by simp), hc0] at hc
        injection hc with hc
        injection hc with h1 h2 h3
        subst h1 h2
        exact hB0.old h0 bd e
      have HX := Lib.hid hx
      clear hx hx0 hc0 hB0 hA0
      have hlen := hB.len_
      simp only [List.length_append, Nat.sub_zero] at hlen
      have hw := Buffer_Write wr hB.buf B x.length d x hBs (fun h0 bd e => by have := hold h0 bd e; omega) (fun h0 bd e hm => by
        simp only [Option.mem_toList] at hm
        have h1 := hB.new_ _ hm
        by_cases h2 : 0 < x.length
        · have := hold h2 bd e; omega
        · have := hB.buf.len_le; omega) (by omega)
      have hne := hB.own_ne ho (by decide) (by decide)
      have HB := Lib.hid hB
      clear hB hlen hBs hold
      go_wp2_with fail
      refine hw.mono ?_
      rintro e w2 ⟨g2, row2, len2, off2, rfl, hw2⟩
      have ho2 := hw2.fr.own ho hne
      have hsz : w.heap.size ≤ w2.heap.size := Nat.le_trans hf1.size hw2.fr.size
      obtain ⟨v', w', hrun, ho', hg', hb'⟩ := run_app (P := Tryd.prog) (w2.alloc (.cells #[.int .i64 (x.length : Int)] 3)) w.heap.size 39 39 39 3 _ 1 8 Tryd.underlying39 infoI rfl (by decide) _ _ _ (ho2.alloc _) _ 1 _
        (src_one w2 (.int .i64 (x.length : Int)) 3 3 39 Tryd.underlying39 rfl 1) (by omega) (by omega) (by simp; omega)
      go_wp2_with (at_builtin; refine wpList_append_run rfl _ _ _ _ rfl rfl rfl hrun ?_)
      go_roundw
      case rel => exact wst_round (by have := HN.out; omega) HX.out HB.out hf1 hw2 ho2 ho' hg'
      case measure => simp [intOf]; omega
    · obtain rfl : k = n := by have := HN.out; omega
      have HB := Lib.hid hB
      have hst := Buffer_String wr hB.buf
      clear hB
      go_wp2_with fail
      refine hst.mono ?_
      rintro e w2 ⟨s, rfl, H2, k2, rfl⟩
      go_wp2_with fail
      go_ret2
      have hv := own_slv (own_drewN ho k2)
      rw [List.take_of_length_le (by have := HN.out; omega)] at hv
      refine ⟨_, _, _, rfl, hv, ?_, hf1.drewN _⟩
      show s = _
      rw [H2.out, HB.out.reads, List.take_of_length_le (by have := HN.out; omega)]

/-- append onto the slice of unused bytes. -/
theorem run_app_free {P : Program} (w : World) (t tx ty : TypeId) (ht : P.underlying t = some (.slice 5)) (hinfo : (P.info? 5).map (fun i => (i.zero, i.size, i.bytes)) = some (some (.int .u8 0), 1, 1))
    {b g : Nat} {row : List UInt8} {len off : Nat} {lr : Int} (h : Buf w b (some g) row len off lr) (x : Value) (m : Nat) (news : List UInt8) (hs : Src P 1 tx x m (news.map bv) w) (hb : m ≤ 140737488351232) :
    ∃ (A' : Option Addr) (c' : Nat) (w' : World) (row' : List UInt8), (Builtin.append_ #[t, tx] ty #[.slice (cutA (some ⟨g, 0, none⟩) row.length len) 0 (row.length - len), x]).run P w = .ok (.slice A' m c') w' ∧ Sl w' A' m news ∧ Buf w' b (some g) row' len off lr ∧ row'.length = row.length ∧ unread row' len off = unread row len off ∧ Fr [g] w w' ∧
      (0 < m → ∀ ad, A' = some ad → ad.block ≠ b) ∧ (row.length < len + m → ∀ ad, A' = some ad → ad.block ≠ g) := by
  obtain ⟨i, hi, hz, hsz, hby⟩ : ∃ i, P.info? 5 = some i ∧ i.zero = some (.int .u8 0) ∧ i.size = 1 ∧ i.bytes = 1 := by
    cases hi : P.info? 5 with
    | none => simp [hi] at hinfo
    | some i => simp [hi] at hinfo; exact ⟨i, rfl, hinfo.1, hinfo.2.1, hinfo.2.2⟩
  have hnl : news.length = m := by simpa using hs.newsLen
  have hle := h.len_le
  obtain ⟨hgb, hR⟩ := h.some_ g rfl
  by_cases hroom : m ≤ row.length - len
  · by_cases h0 : m = 0
    · subst h0
      obtain rfl : news = [] := List.eq_nil_of_length_eq_zero hnl
      have key : ∀ A : Addr, (Builtin.append_ #[t, tx] ty #[.slice (some ⟨A.block, A.off, none⟩) 0 (row.length - len), x]).run P w = .ok (.slice (some ⟨A.block, A.off, none⟩) 0 (row.length - len)) w := fun A => by
        have := run_append_room_src (P := P) w t tx ty 5 i ht hi A.block A.off 0 (row.length - len) x 0 [] (by rw [hsz]; exact hs) (by omega) (fun j hj => by simp at hj) (fun j hj => by simp at hj)
        simpa [World.setCells] using this
      by_cases hcl : row.length = len
      · refine ⟨some ⟨g, 0, none⟩, row.length - len, w, row, ?_, ⟨rfl, Rd.nil _ _⟩, h, rfl, rfl, Fr.refl _ _, fun h => by omega, fun h => by omega⟩
        have e : cutA (some (⟨g, 0, none⟩ : Addr)) row.length len = some ⟨g, 0, none⟩ := by simp [cutA, hcl]
        rw [e]
        exact key ⟨g, 0, none⟩
      · refine ⟨some ⟨g, len, none⟩, row.length - len, w, row, ?_, ⟨rfl, Rd.nil _ _⟩, h, rfl, rfl, Fr.refl _ _, fun h => by omega, fun h => by omega⟩
        have e : cutA (some (⟨g, 0, none⟩ : Addr)) row.length len = some ⟨g, len, none⟩ := by simp [cutA, hcl, add_at]
        rw [e]
        exact key ⟨g, len, none⟩
    · have e : cutA (some (⟨g, 0, none⟩ : Addr)) row.length len = some ⟨g, len, none⟩ := by
        unfold cutA
        rw [if_neg (by omega)]
        simp [add_at]
      rw [e]
      have hr := run_append_room_src (P := P) w t tx ty 5 i ht hi g len 0 (row.length - len) x m (news.map bv) (by rw [hsz]; exact hs) (by omega) (fun j hj => by
        simp at hj
        rw [hsz, hR.cell, List.getElem?_eq_getElem (by omega)]
        rfl) (fun j hj => by
        simp at hj
        exact hR.frozen (by rw [hsz]; omega))
      rw [hsz] at hr
      simp only [Nat.zero_mul, Nat.add_zero, Nat.zero_add] at hr
      have hR' := row_setCells hR len news (by omega)
      have hol : (over row len news).length = row.length := over_length _ _ _ (by omega)
      refine ⟨_, _, _, over row len news, hr, ⟨hnl.symm, ?_⟩, h.row' hR' (fr_setCells g _ _ _) hol, hol, ?_, fr_setCells g _ _ _, fun _ ad e => by injection e with e; rw [← e]; exact hgb, fun h => by omega⟩
      · have := hR'.rd len m
        have e2 : ((over row len news).drop len).take m = news := by
          unfold over
          rw [List.append_assoc, List.drop_left' (by simp; omega)]
          exact List.take_left' hnl
        rw [e2] at this
        exact this
      · unfold unread over
        rw [List.append_assoc, List.take_left' (by simp; omega)]
  · have hfit : Builtin.nextslicecap (0 + m) (row.length - len) * i.bytes ≤ 281474976710656 := by
      rw [hby, Nat.mul_one]
      exact Nat.le_trans (nextcap_le _ _ (by omega)) (by omega)
    have hold : (Builtin.firstCells i.size 0 (.slice (cutA (some ⟨g, 0, none⟩) row.length len) 0 (row.length - len))).run P w.drew = .ok ([] : List Value).toArray w.drew := by
      rw [hsz]
      obtain ⟨ad, hA⟩ : ∃ ad, cutA (some (⟨g, 0, none⟩ : Addr)) row.length len = some ad := by
        unfold cutA
        split
        · exact ⟨_, rfl⟩
        · exact ⟨_, rfl⟩
      rw [hA]
      exact run_firstCells_some (P := P) w.drew 1 0 ad 0 _ [] (by simp) (fun j u hu => by simp at hu)
    have hr := run_append_grow_src (P := P) w t tx ty 5 i (.int .u8 0) ht hi hz (cutA (some ⟨g, 0, none⟩) row.length len) 0 (row.length - len) [] hold x m (news.map bv) (by rw [hsz]; exact hs) (by omega) (by omega) hfit
    have hge := grownCap_ge w (0 + m) (row.length - len) 5
    generalize grownCap w (0 + m) (row.length - len) 5 = c at *
    rw [List.nil_append, bvs_zeros] at hr
    simp only [Nat.zero_add] at hr hge
    have hf : Fr [g] w (w.drew.alloc (.cells (bvs (news ++ List.replicate (c - m) 0)) 5)) := ((Fr.refl _ w).drew).alloc _
    have hRn : Row (w.drew.alloc (.cells (bvs (news ++ List.replicate (c - m) 0)) 5)) w.heap.size (news ++ List.replicate (c - m) 0) := ⟨0, 0, heap_alloc_new w.drew _, .inl (Nat.le_refl _)⟩
    have hbl := h.blk.lt
    have hgl := hR.lt
    refine ⟨_, _, _, row, hr, ⟨hnl.symm, ?_⟩, h.fr (((Fr.refl [] w).drew).alloc _) (by simp) (by simp), rfl, rfl, hf, fun _ ad e => by injection e with e; rw [← e]; simp; omega, fun _ ad e => by injection e with e; rw [← e]; simp; omega⟩
    have := hRn.rd 0 m
    have e2 : ((news ++ List.replicate (c - m) (0 : UInt8)).drop 0).take m = news := by
      rw [List.drop_zero]
      exact List.take_left' hnl
    rw [e2] at this
    exact this

set_option maxHeartbeats 800000 in
set_option maxRecDepth 100000 in
theorem impl_WriteFree (l : List UInt8) (A0 : Option Addr) (n0 c0 : Nat) (m : List UInt8) (w : World) (hS0 : Sl w A0 n0 m) (hN : l.length + n0 ≤ 2097152) :
    Calls Tryd.prog 20 #[.string ⟨l.toArray⟩, .slice A0 n0 c0] w fun e w' => ∃ s, e = .returned (.string ⟨s.toArray⟩) ∧ Hid (s = l ++ m) ∧ Fr [] w w' := by
  go_enter Tryd.func20, Tryd.ntmps20
  go_wp2_with fail
  refine (NewBufferString _ _ (by omega)).mono ?_
  rintro e w1 ⟨b, g, pad, rfl, hB, hf, hb, hg⟩
  go_wp2_with fail
  refine (Buffer_AvailableBuffer _ hB).mono ?_
  rintro e w2 ⟨A2, c2, rfl, H2, k2, rfl⟩
  obtain ⟨hA2, hc2⟩ := H2.out
  simp only [Option.map_some] at hA2
  have hf2 : Fr [] w (w1.drewN k2) := hf.drewN k2
  obtain ⟨A', c', w3, row3, hrun, hS3, hB3, hrl, hur, hf3, hA, hA3⟩ := run_app_free (P := Tryd.prog) (w1.drewN k2) 26 26 26 Tryd.underlying26 info5g (hB.drewN k2) (.slice A0 n0 c0) n0 m ((hS0.fr_old' hf2).src Tryd.underlying26 c0) (by omega)
  rw [← hA2, ← hc2] at hrun
  clear hA2 hc2
  have hf13 := hf2.trans_of hf3 (by simp; omega)
  have hBw : Bw w.heap.size w3 b l (some g) row3 l.length 0 0 := ⟨hB3, by rw [hur, unread_pad]; rfl, fun x e => by injection e with e; omega, hb⟩
  have hw := Lib.hid (Buffer_Write w3 hB3 A' n0 c' m hS3 hA (fun h0 ad e hm => by simp at hm; exact hA3 (by rw [hrl] at h0; exact h0) ad e hm) (by omega))
  have HBW := Lib.hid hBw
  clear hBw hB3 hS3 hA hA3 hB H2
  go_wp2_with (at_builtin; refine wpList_append_run rfl _ _ _ _ rfl rfl rfl hrun ?_)
  refine hw.out.mono ?_
  rintro e w4 ⟨g4, row4, len4, off4, rfl, hp⟩
  have hB4 := HBW.out.put hf13.size hp
  have hf14 := HBW.out.fr_ hf13 rfl hp.fr (fun _ h => h)
  have hst := Lib.hid (Buffer_String _ hB4.buf)
  have HB4 := Lib.hid hB4
  clear hB4 hp
  go_wp2_with fail
  refine hst.out.mono ?_
  rintro e w5 ⟨s, rfl, H5, k5, rfl⟩
  go_wp2_with fail
  go_ret
  exact ⟨_, rfl, by show _ = _; rw [H5.out, HB4.out.reads], hf14.drewN _⟩

set_option maxRecDepth 100000 in
set_option maxHeartbeats 800000 in
theorem FnExactWriteFree_walk (l : List UInt8) (A0 : Option Addr) (n0 c0 : Nat) (m : List UInt8) (w : World) (hl : l.length ≤ 9223372036854775807) (hS0 : Sl w A0 n0 m) (hN : l.length + n0 ≤ 1048576) :
    Calls Tryd.prog 6 #[.string ⟨l.toArray⟩, .slice A0 n0 c0] w fun e w' => e = .returned (.bool true) ∧ Below w.heap.size w w' := by
  have h1 := Lib.hid (impl_WriteFree l A0 n0 c0 m w.drew (hS0.fr_old' (Fr.refl [] w).drew) (by omega))
  have hst0 := run_string_sl (P := Tryd.prog) (hS0.fr_old' (Fr.refl [] w).drew) 26 9 5 c0 Tryd.underlying26 Tryd.underlying5 Tryd.underlying9
  have HS := Lib.hid hS0
  have hmle : m.length ≤ 1048576 := by have := hS0.1; omega
  clear hS0
  go_enter Tryd.func6, Tryd.ntmps6
  go_wp2_with fail
  go_region_with ((go_at_call 20; ((with_reducible refine h1.out.mono ?_); rintro e w1 ⟨s, rfl, H1, hf1⟩; have hst := run_string_sl (P := Tryd.prog) ((HS.out.fr_old' (Fr.refl [] w).drew).fr_old' hf1) 26 9 5 c0 Tryd.underlying26 Tryd.underlying5 Tryd.underlying9)))
  all_goals
    go_wp2_with fail
    go_ret
    exact ⟨ret_true (by rw [H1.out]; simp), ((Fr.refl [] w).drew.trans hf1).below (Nat.le_refl _) (by simp)⟩

end Go.Proofs.YtkdjapbogchaeaaDoor
