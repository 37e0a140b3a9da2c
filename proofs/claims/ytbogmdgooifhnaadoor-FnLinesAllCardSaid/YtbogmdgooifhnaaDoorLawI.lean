/- Reading lines: the functions and the reference. -/
import Derived.Test.YtbogmdgooifhnaaDoorLawG
namespace Go.Proofs.YtbogmdgooifhnaaDoor
open Go.RowKit
set_option linter.unusedVariables false
attribute [local go_sem ↓] Go.wp_at_zero Go.wp_at_succ

/-- What is left before the k-th line. -/
def left (l : List UInt8) (cs : List UInt8) : Nat → List UInt8
  | 0 => l
  | k + 1 => match cs[k]? with
    | some x => rest (left l cs k) x
    | none => left l cs k
theorem left_succ (l cs : List UInt8) (k : Nat) (x : UInt8) (h : cs[k]? = some x) : left l cs (k + 1) = rest (left l cs k) x := by rw [left, h]
theorem left_length (l cs : List UInt8) : ∀ k, (left l cs k).length ≤ l.length
  | 0 => Nat.le_refl _
  | k + 1 => by
    have := left_length l cs k
    rw [left]
    split
    · simp [rest]; omega
    · exact this
/-- The k-th line. -/
def readl (l cs : List UInt8) (k : Nat) : List UInt8 × Bool := (line (left l cs k) (cs.getD k 0), misses (left l cs k) (cs.getD k 0))
theorem readl_eq (l cs : List UInt8) (k : Nat) (x : UInt8) (h : cs[k]? = some x) : readl l cs k = (line (left l cs k) x, misses (left l cs k) x) := by
  obtain ⟨hk, rfl⟩ := List.getElem?_eq_some_iff.1 h
  simp [readl, List.getD, hk]

theorem Sl.at_ {w : World} {A : Option Addr} {n : Nat} {l : List UInt8} (h : Sl w A n l) {k : Nat} (hk : k < n) : ∃ ad x, A = some ad ∧ l[k]? = some x ∧ w.cell? (ad.add k) = some (.int .u8 (x.toNat : Int)) := by
  have hl : k < l.length := by have := h.1; omega
  obtain ⟨ad, e, hc⟩ := h.2 k hl
  exact ⟨ad, l[k], e, by simp [hl], hc⟩
theorem Sl.fr_old {S : List Nat} {w w' : World} {A : Option Addr} {n : Nat} {l : List UInt8} (h : Sl w A n l) (hf : Fr S w w') (hn : ∀ k ∈ S, w.heap.size ≤ k) : Sl w' A n l :=
  h.fr' hf (fun h0 ad e hs => by have := hn _ hs; have := h.old h0 ad e; omega)

/-- The loop of ReadSlices and ReadStrings. -/
def LineRel (w : World) (l cs : List UInt8) (pad : List UInt8) (b g : Nat) (v i : Value) (wr : World) : Prop :=
  ∃ k len off lr, k ≤ cs.length ∧ i = .int .i64 (k : Int) ∧ wr.ownsRow w.heap.size 35 3 v k (pcells (parts (readl l cs) k)) ∧ Buf wr b (some g) (l ++ pad) len off lr ∧ unread (l ++ pad) len off = left l cs k ∧ Fr [] w wr

set_option maxHeartbeats 1600000 in
theorem impl_ReadSlices (l : List UInt8) (A : Option Addr) (n c : Nat) (cs : List UInt8) (w : World) (a : Addr) (hE : Eof w a) (hS : Sl w A n cs) (hN : l.length + n ≤ 1048576) :
    Calls Tryd.prog 23 #[.string ⟨l.toArray⟩, .slice A n c] w fun e w' => ∃ A' c' s, e = .returned (.tuple #[.slice A' n c', .string ⟨s.toArray⟩]) ∧ Rs w' A' n 3 (pcells (parts (readl l cs) n)) ∧ Hid (s = left l cs n) ∧ Fr [] w w' := by
  have HN := Lib.hid hS.1
  have hlt0 := hE.lt
  go_enter Tryd.func23, Tryd.ntmps23
  go_wp2_with fail
  refine (NewBufferString _ _ (by omega)).mono ?_
  rintro e w1 ⟨b, g, pad, rfl, hB, hf, hb, hg⟩
  go_wp2_with fail
  go_loopw [7, 15] (fun v i wr => LineRel w l cs pad b g v i wr) (fun _ i _ => n - (intOf i).toNat)
  case atStart =>
    refine ⟨0, _, 0, 0, Nat.zero_le _, rfl, ?_, hB.alloc _, by rw [unread_pad]; rfl, hf.alloc _⟩
    have := own_empty w1 35 3
    exact ⟨this.1, by
      rcases this.2 with h | ⟨x, cap, cur, hv, hb', rest⟩
      · exact .inl h
      · exact .inr ⟨x, cap, cur, hv, Nat.le_trans hf.size hb', rest⟩⟩
  case round =>
    obtain ⟨k, len, off, lr, hk, rfl, ho, hB1, hu1, hf1⟩ := hrel
    have hlen := unread_length (off := off) hB1.len_le
    have hlo : len - off ≤ 1048576 := by
      rw [hu1] at hlen
      have := left_length l cs k
      omega
    clear hlen
    have HU := Lib.hid hu1
    clear hu1
    obtain ⟨A', c', rfl⟩ := own_form ho
    have hne : ∀ y, (Value.slice A' k c').ownBlock = some y → y ∉ [b] := fun y hy => by
      have := own_ne_blk ho hB1.blk (by decide) y hy
      simpa using this
    have hE1 := hE.fr hf1 (by simp)
    by_cases hlt : k < n
    · obtain ⟨ad, x, rfl, hx, hc⟩ := (hS.fr_old hf1 (by simp)).at_ hlt
      have HX := Lib.hid hx
      clear hx
      go_wp2_with fail
      refine (Buffer_ReadBytes _ hB1 x a hE1 hlo).mono ?_
      rintro e w2 ⟨A2, m, c2, s, off2, eo, rfl, hS2, H2, hB2, hf2⟩
      go_wp2_with fail
      refine (impl_part _ m c2 s a eo _ hS2 (hE1.fr hf2 (by simp; omega))).mono ?_
      rintro e w3 ⟨rfl, hf3⟩
      have hf13 : Fr [] w w3 := (hf1.trans_of hf2 (by simp; omega)).trans hf3
      have ho2 := hf3.own (hf2.own ho hne) (by simp)
      have hB3 := hB2.fr hf3 (by simp) (by simp)
      have hsz : w.heap.size ≤ w3.heap.size := hf13.size
      obtain ⟨v', w', hrun, ho', hg', hb'⟩ := run_app (P := Tryd.prog) (w3.alloc (.cells #[.string ⟨s.toArray⟩, .bool eo, .bool false] 35)) w.heap.size 23 23 23 35 _ 3 24 Tryd.underlying23 infoP rfl (by decide) _ _ _ (ho2.alloc _) _ 1 _
        (src_blk w3 #[.string ⟨s.toArray⟩, .bool eo, .bool false] 35 35 23 Tryd.underlying23 3 rfl (by simp [Value.oneCell']) 1) (by omega) (by omega) (by simp; omega)
      go_wp2_with (at_builtin; refine wpList_append_run rfl _ _ _ _ rfl rfl rfl hrun ?_)
      go_roundw
      case rel =>
        obtain ⟨h1, h2, h3⟩ := H2.out
        rw [HU.out] at h1 h2 h3
        refine ⟨k + 1, len, off2, -1, by have := HN.out; omega, by go_num, ?_, hB3.app ho2 hg' (by decide) (by decide), ?_, hf13.app ho2 hg'⟩
        · rw [parts_succ, pcells_append, readl_eq l cs k x HX.out, ← h1, ← h2]
          exact ho'
        · rw [h3, left_succ l cs k x HX.out]
      case measure => simp [intOf]; omega
    · go_wp2_with fail
      refine (Buffer_String _ hB1).mono ?_
      rintro e w2 ⟨s, rfl, H2, k2, rfl⟩
      go_wp2_with fail
      go_ret2
      obtain rfl : k = n := by have := HN.out; omega
      refine ⟨_, _, _, rfl, own_rs (own_drewN ho k2), ?_, hf1.drewN _⟩
      show s = _
      rw [H2.out, HU.out]

/-- []byte(s). -/
theorem run_bytes_of (l : List UInt8) (W : World) (hl : l.length ≤ 9223372036854775807) : ∃ A m c W', (convert 9 22 (.string ⟨l.toArray⟩)).run Tryd.prog W = .ok (.slice A m c) W' ∧ Sl W' A m l ∧ Fr [] W W' := by
  have h := run_bytes_of_string (P := Tryd.prog) W 9 22 5 ⟨l.toArray⟩ Tryd.underlying9 Tryd.underlying22 Tryd.underlying5
  simp only [str_size] at h
  refine ⟨_, _, _, _, h, ⟨rfl, ?_⟩, ((Fr.refl [] W).drew).alloc _⟩
  have h1 := grownCap_ge W l.length 0 5
  have h2 := grownCap_le_maxLen W l.length 0 5 hl
  generalize grownCap W l.length 0 5 = c at *
  rw [bytesRow_eq, str_toList, str_size]
  intro j hj
  refine ⟨_, rfl, ?_⟩
  rw [add_at, show (⟨W.heap.size, 0 + j, none⟩ : Addr) = ⟨W.drew.heap.size, 0 + j, none⟩ from rfl, cell_of_row _ _ _ _ _ _ (heap_alloc_new W.drew _), bvs_get, List.getElem?_append_left (by omega), Nat.zero_add, List.getElem?_eq_getElem hj]
  rfl

set_option maxHeartbeats 1600000 in
theorem impl_ReadStrings (l : List UInt8) (A : Option Addr) (n c : Nat) (cs : List UInt8) (w : World) (a : Addr) (hE : Eof w a) (hS : Sl w A n cs) (hN : l.length + n ≤ 1048576) :
    Calls Tryd.prog 15 #[.string ⟨l.toArray⟩, .slice A n c] w fun e w' => ∃ A' c' s, e = .returned (.tuple #[.slice A' n c', .string ⟨s.toArray⟩]) ∧ Rs w' A' n 3 (pcells (parts (readl l cs) n)) ∧ Hid (s = left l cs n) ∧ Fr [] w w' := by
  have HN := Lib.hid hS.1
  have hlt0 := hE.lt
  go_enter Tryd.func15, Tryd.ntmps15
  go_wp2_with fail
  refine (NewBufferString _ _ (by omega)).mono ?_
  rintro e w1 ⟨b, g, pad, rfl, hB, hf, hb, hg⟩
  go_wp2_with fail
  go_loopw [7, 17] (fun v i wr => LineRel w l cs pad b g v i wr) (fun _ i _ => n - (intOf i).toNat)
  case atStart =>
    refine ⟨0, _, 0, 0, Nat.zero_le _, rfl, ?_, hB.alloc _, by rw [unread_pad]; rfl, hf.alloc _⟩
    have := own_empty w1 35 3
    exact ⟨this.1, by
      rcases this.2 with h | ⟨x, cap, cur, hv, hb', rest⟩
      · exact .inl h
      · exact .inr ⟨x, cap, cur, hv, Nat.le_trans hf.size hb', rest⟩⟩
  case round =>
    obtain ⟨k, len, off, lr, hk, rfl, ho, hB1, hu1, hf1⟩ := hrel
    have hlen := unread_length (off := off) hB1.len_le
    have hlo : len - off ≤ 1048576 := by
      rw [hu1] at hlen
      have := left_length l cs k
      omega
    clear hlen
    have HU := Lib.hid hu1
    clear hu1
    obtain ⟨A', c', rfl⟩ := own_form ho
    have hne : ∀ y, (Value.slice A' k c').ownBlock = some y → y ∉ [b] := fun y hy => by
      have := own_ne_blk ho hB1.blk (by decide) y hy
      simpa using this
    have hE1 := hE.fr hf1 (by simp)
    by_cases hlt : k < n
    · obtain ⟨ad, x, rfl, hx, hc⟩ := (hS.fr_old hf1 (by simp)).at_ hlt
      have HX := Lib.hid hx
      clear hx
      go_wp2_with fail
      refine (Buffer_ReadString _ hB1 x a hE1).mono ?_
      rintro e w2 ⟨s, off2, eo, rfl, H2, hB2, hf2⟩
      have hsl : s.length ≤ 9223372036854775807 := by
        rw [H2.out.1, HU.out, line, List.length_take]
        have := left_length l cs k
        omega
      obtain ⟨A2, m2, c2, W2, hcv, hS2, hfc⟩ := run_bytes_of s w2 hsl
      go_wp2_with fail
      refine (impl_part _ m2 c2 s a eo _ hS2 ((hE1.fr hf2 (by simp; omega)).fr hfc (by simp))).mono ?_
      rintro e w3 ⟨rfl, hf3⟩
      have hf23 := hfc.trans hf3
      have hf13 : Fr [] w w3 := (hf1.trans_of hf2 (by simp; omega)).trans hf23
      have ho2 := hf23.own (hf2.own ho hne) (by simp)
      have hB3 := hB2.fr hf23 (by simp) (by simp)
      have hsz : w.heap.size ≤ w3.heap.size := hf13.size
      clear hcv
      obtain ⟨v', w', hrun, ho', hg', hb'⟩ := run_app (P := Tryd.prog) (w3.alloc (.cells #[.string ⟨s.toArray⟩, .bool eo, .bool false] 35)) w.heap.size 23 23 23 35 _ 3 24 Tryd.underlying23 infoP rfl (by decide) _ _ _ (ho2.alloc _) _ 1 _
        (src_blk w3 #[.string ⟨s.toArray⟩, .bool eo, .bool false] 35 35 23 Tryd.underlying23 3 rfl (by simp [Value.oneCell']) 1) (by omega) (by omega) (by simp; omega)
      go_wp2_with (at_builtin; refine wpList_append_run rfl _ _ _ _ rfl rfl rfl hrun ?_)
      go_roundw
      case rel =>
        obtain ⟨h1, h2, h3⟩ := H2.out
        rw [HU.out] at h1 h2 h3
        refine ⟨k + 1, len, off2, -1, by have := HN.out; omega, by go_num, ?_, hB3.app ho2 hg' (by decide) (by decide), ?_, hf13.app ho2 hg'⟩
        · rw [parts_succ, pcells_append, readl_eq l cs k x HX.out, ← h1, ← h2]
          exact ho'
        · rw [h3, left_succ l cs k x HX.out]
      case measure => simp [intOf]; omega
    · go_wp2_with fail
      refine (Buffer_String _ hB1).mono ?_
      rintro e w2 ⟨s, rfl, H2, k2, rfl⟩
      go_wp2_with fail
      go_ret2
      obtain rfl : k = n := by have := HN.out; omega
      refine ⟨_, _, _, rfl, own_rs (own_drewN ho k2), ?_, hf1.drewN _⟩
      show s = _
      rw [H2.out, HU.out]

/-- spec.Index. -/
theorem spec_Index (l : List UInt8) (x : UInt8) (w : World) (hl : l.length ≤ 9223372036854775807) :
    Calls Tryd.prog 25 #[.string ⟨l.toArray⟩, .int .u8 (x.toNat : Int)] w fun e w' => e = .returned (.int .i64 (idxI l x)) ∧ w = w' := by
  go_enter Tryd.func25, Tryd.ntmps25
  go_wp2_with fail
  go_loop [5] (fun i => ∃ k : Nat, k ≤ l.idxOf x ∧ k ≤ l.length ∧ i = .int .i64 (k : Int)) (fun i => l.length - (intOf i).toNat)
  case atStart => exact ⟨0, Nat.zero_le _, Nat.zero_le _, rfl⟩
  case round =>
    obtain ⟨k, hki, hkl, rfl⟩ := hrel
    by_cases hlt : k < l.length
    · have hsz : k < (⟨l.toArray⟩ : ByteArray).size := by rw [str_size]; exact hlt
      have hget : (⟨l.toArray⟩ : ByteArray)[k] = l[k] := rfl
      by_cases heq : l[k] = x
      · have hi : idxI l x = k := by
          have hle : ¬ k < l.idxOf x := fun h => by
            have := List.not_of_lt_findIdx h
            simp [heq] at this
          rw [idxI_some (by omega)]
          omega
        have hx : ((((⟨l.toArray⟩ : ByteArray)[k]).toNat : Int) == (x.toNat : Int)) = true := by simp [hget, heq]
        have HI := Lib.hid hi
        clear hi heq hget
        go_wp2_with fail
        go_ret
        exact ⟨by rw [HI.out]; rfl, rfl⟩
      · have hx : ((((⟨l.toArray⟩ : ByteArray)[k]).toNat : Int) == (x.toNat : Int)) = false := by
          rw [hget]
          simp only [beq_eq_false_iff_ne, ne_eq]
          intro h
          exact heq (UInt8.toNat_inj.1 (by omega))
        have HH := Lib.hid heq
        clear hget heq
        go_wp2_with fail
        go_round
        case rel =>
          refine ⟨k + 1, ?_, by omega, by go_num⟩
          have : l.idxOf x ≠ k := by
            intro h
            have hlt' : l.idxOf x < l.length := by omega
            have := List.getElem_idxOf hlt'
            simp only [h] at this
            exact HH.out this
          omega
        case measure => simp [intOf]; omega
    · go_wp2_with fail
      go_ret
      exact ⟨by rw [idxI_none (by omega)]; rfl, rfl⟩

/-- The loop of the reference's ReadLines. -/
def LineSRel (w : World) (l cs : List UInt8) (s v i : Value) (wr : World) : Prop :=
  ∃ k, k ≤ cs.length ∧ i = .int .i64 (k : Int) ∧ s = .string ⟨(left l cs k).toArray⟩ ∧ wr.ownsRow w.heap.size 62 2 v k (scells (parts (readl l cs) k)) ∧ Fr [] w wr

set_option maxHeartbeats 1600000 in
theorem spec_ReadLines (l : List UInt8) (A : Option Addr) (n c : Nat) (cs : List UInt8) (w : World) (hS : Sl w A n cs) (hN : l.length + n ≤ 1048576) :
    Calls Tryd.prog 16 #[.string ⟨l.toArray⟩, .slice A n c] w fun e w' => ∃ A' c' s, e = .returned (.tuple #[.slice A' n c', .string ⟨s.toArray⟩]) ∧ Rs w' A' n 2 (scells (parts (readl l cs) n)) ∧ Hid (s = left l cs n) ∧ Fr [] w w' := by
  have HN := Lib.hid hS.1
  go_enter Tryd.func16, Tryd.ntmps16
  go_wp2_with fail
  go_loopw [0, 6, 13] (fun s v i wr => LineSRel w l cs s v i wr) (fun _ _ i _ => n - (intOf i).toNat)
  case atStart =>
    exact ⟨0, Nat.zero_le _, rfl, rfl, own_empty w 62 2, (Fr.refl [] w).alloc _⟩
  case round =>
    obtain ⟨k, hk, rfl, rfl, ho, hf1⟩ := hrel
    obtain ⟨A', c', rfl⟩ := own_form ho
    by_cases hlt : k < n
    · obtain ⟨ad, x, rfl, hx, hc⟩ := (hS.fr_old hf1 (by simp)).at_ hlt
      have HX := Lib.hid hx
      clear hx
      have hdl : (left l cs k).length ≤ 1048576 := by have := left_length l cs k; omega
      generalize hd : left l cs k = d at *
      have HD := Lib.hid hd
      clear hd
      have hsz : w.heap.size ≤ wr.heap.size := hf1.size
      go_wp2_with fail
      refine (spec_Index d x _ (by omega)).mono ?_
      rintro e w2 ⟨rfl, rfl⟩
      by_cases hi : d.idxOf x < d.length
      · rw [idxI_some hi]
        have h1 : line d x = d.take (d.idxOf x + 1) := rfl
        have h2 : rest d x = d.drop (d.idxOf x + 1) := rfl
        have h3 : misses d x = false := by simp [misses, hi]
        have H1 := Lib.hid h1
        have H2 := Lib.hid h2
        have H3 := Lib.hid h3
        clear h1 h2 h3
        generalize d.idxOf x = i at *
        obtain ⟨v', w', hrun, ho', hg', hb'⟩ := run_app (P := Tryd.prog) (wr.alloc (.cells #[.string ⟨(d.take (i + 1)).toArray⟩, .bool false] 62)) w.heap.size 26 26 26 62 _ 2 24 Tryd.underlying26 infoQ rfl (by decide) _ _ _ (ho.alloc _) _ 1 _
          (src_blk wr #[.string ⟨(d.take (i + 1)).toArray⟩, .bool false] 62 62 26 Tryd.underlying26 2 rfl (by simp [Value.oneCell']) 1) (by omega) (by omega) (by simp; omega)
        go_wp2_with (at_builtin; refine wpList_append_run rfl _ _ _ _ rfl rfl rfl hrun ?_)
        go_roundw
        case rel =>
          refine ⟨k + 1, by have := HN.out; omega, by go_num, ?_, ?_, hf1.app ho hg'⟩
          · rw [left_succ l cs k x HX.out, HD.out, H2.out]
          · rw [parts_succ, scells_append, readl_eq l cs k x HX.out, HD.out, H1.out, H3.out]
            exact ho'
        case measure => simp [intOf]; omega
      · rw [idxI_none hi]
        have h1 : line d x = d := by rw [line, List.take_of_length_le (by omega)]
        have h2 : rest d x = [] := by rw [rest, List.drop_eq_nil_of_le (by omega)]
        have h3 : misses d x = true := by simp [misses]; omega
        have H1 := Lib.hid h1
        have H2 := Lib.hid h2
        have H3 := Lib.hid h3
        clear h1 h2 h3 hi
        obtain ⟨v', w', hrun, ho', hg', hb'⟩ := run_app (P := Tryd.prog) (wr.alloc (.cells #[.string ⟨d.toArray⟩, .bool true] 62)) w.heap.size 26 26 26 62 _ 2 24 Tryd.underlying26 infoQ rfl (by decide) _ _ _ (ho.alloc _) _ 1 _
          (src_blk wr #[.string ⟨d.toArray⟩, .bool true] 62 62 26 Tryd.underlying26 2 rfl (by simp [Value.oneCell']) 1) (by omega) (by omega) (by simp; omega)
        go_wp2_with (at_builtin; refine wpList_append_run rfl _ _ _ _ rfl rfl rfl hrun ?_)
        go_roundw
        case rel =>
          refine ⟨k + 1, by have := HN.out; omega, by go_num, ?_, ?_, hf1.app ho hg'⟩
          · rw [left_succ l cs k x HX.out, HD.out, H2.out]
          · rw [parts_succ, scells_append, readl_eq l cs k x HX.out, HD.out, H1.out, H3.out]
            exact ho'
        case measure => simp [intOf]; omega
    · go_wp2_with fail
      go_ret2
      obtain rfl : k = n := by have := HN.out; omega
      exact ⟨_, _, _, rfl, own_rs ho, rfl, hf1⟩

theorem FnExactReadSlices_walk (l : List UInt8) (A : Option Addr) (n c : Nat) (cs : List UInt8) (w : World) (a : Addr) (hE : Eof w a) (hl : l.length ≤ 9223372036854775807) (hS : Sl w A n cs) (hN : l.length + n ≤ 1048576) :
    Calls Tryd.prog 6 #[.string ⟨l.toArray⟩, .slice A n c] w fun e w' => e = .returned (.bool true) ∧ Below w.heap.size w w' := by
  go_enter Tryd.func6, Tryd.ntmps6
  go_wp2_with fail
  refine (impl_ReadSlices l A n c cs w a hE hS hN).mono ?_
  rintro e w1 ⟨A1, c1, s1, rfl, hS1, H1, hf1⟩
  go_wp2_with fail
  refine (spec_ReadLines l A n c cs w1 (hS.fr_old hf1 (by simp)) hN).mono ?_
  rintro e w2 ⟨A2, c2, s2, rfl, hS2, H2, hf2⟩
  go_wp2_with fail
  refine (sameParts_true A1 A2 n c1 c2 _ w2 (hS1.fr_old hf2 (by simp)) hS2 (by omega)).mono ?_
  rintro e w3 ⟨rfl, hf3⟩
  obtain rfl : s1 = s2 := by rw [H1.out, H2.out]
  go_wp2_with fail
  go_ret
  exact ⟨rfl, ((hf1.trans hf2).trans hf3).below (Nat.le_refl _) (by simp)⟩

theorem FnExactReadStrings_walk (l : List UInt8) (A : Option Addr) (n c : Nat) (cs : List UInt8) (w : World) (a : Addr) (hE : Eof w a) (hl : l.length ≤ 9223372036854775807) (hS : Sl w A n cs) (hN : l.length + n ≤ 1048576) :
    Calls Tryd.prog 3 #[.string ⟨l.toArray⟩, .slice A n c] w fun e w' => e = .returned (.bool true) ∧ Below w.heap.size w w' := by
  go_enter Tryd.func3, Tryd.ntmps3
  go_wp2_with fail
  refine (impl_ReadStrings l A n c cs w a hE hS hN).mono ?_
  rintro e w1 ⟨A1, c1, s1, rfl, hS1, H1, hf1⟩
  go_wp2_with fail
  refine (spec_ReadLines l A n c cs w1 (hS.fr_old hf1 (by simp)) hN).mono ?_
  rintro e w2 ⟨A2, c2, s2, rfl, hS2, H2, hf2⟩
  go_wp2_with fail
  refine (sameParts_true A1 A2 n c1 c2 _ w2 (hS1.fr_old hf2 (by simp)) hS2 (by omega)).mono ?_
  rintro e w3 ⟨rfl, hf3⟩
  obtain rfl : s1 = s2 := by rw [H1.out, H2.out]
  go_wp2_with fail
  go_ret
  exact ⟨rfl, ((hf1.trans hf2).trans hf3).below (Nat.le_refl _) (by simp)⟩

end Go.Proofs.YtbogmdgooifhnaaDoor
