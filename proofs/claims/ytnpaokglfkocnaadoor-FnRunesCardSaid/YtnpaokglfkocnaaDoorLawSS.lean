/- Laws on reads of code points. -/
import Derived.Test.YtnpaokglfkocnaaDoorRdRune
import Derived.Test.YtnpaokglfkocnaaDoorDec
import Derived.Test.YtnpaokglfkocnaaDoorRecs
import Derived.Test.YtnpaokglfkocnaaDoorLawW
import Derived.Deep.RegionWith
import Derived.Deep.DrawnRows
import Derived.Deep.RegionLaw
namespace Go.Proofs.YtnpaokglfkocnaaDoor
open Go.RowKit
set_option linter.unusedVariables false
attribute [local go_sem ↓] Go.wp_at_zero Go.wp_at_succ

/-- What a read of a code point returns: the code point, its size, and whether nothing is left. -/
def chr (t : List UInt8) : Nat × Nat × Bool := if t = [] then (0, 0, true) else ((dec t).1, (dec t).2, false)
/-- What is left behind k reads. -/
def rst (l : List UInt8) : Nat → List UInt8
  | 0 => l
  | k + 1 => (rst l k).drop (chr (rst l k)).2.1
def chs (l : List UInt8) (k : Nat) : List (Nat × Nat × Bool) := (List.range k).map fun i => chr (rst l i)
def icells (c : Nat × Nat × Bool) : List Value := [.int .i32 (c.1 : Int), .int .i64 (c.2.1 : Int), .bool c.2.2, .bool false]
def rcells (c : Nat × Nat × Bool) : List Value := [.int .i32 (c.1 : Int), .int .i64 (c.2.1 : Int), .bool c.2.2]
theorem chs_succ (l : List UInt8) (k : Nat) : chs l (k + 1) = chs l k ++ [chr (rst l k)] := by simp [chs, List.range_succ]
theorem chs_get (l : List UInt8) (n k : Nat) (h : k < n) : (chs l n)[k]? = some (chr (rst l k)) := by simp [chs, h]
theorem chr_nil : chr [] = (0, 0, true) := rfl
theorem chr_cons {t : List UInt8} (h : t ≠ []) : chr t = ((dec t).1, (dec t).2, false) := by rw [chr, if_neg h]
theorem chr_le (t : List UInt8) : (chr t).1 ≤ 1114111 ∧ (chr t).2.1 ≤ 4 ∧ (chr t).2.1 ≤ t.length := by
  by_cases h : t = []
  · subst h; simp [chr]
  · rw [chr_cons h]
    have := dec_size t h
    exact ⟨dec_rune t, this.2.1, this.2.2⟩
theorem rst_length (l : List UInt8) : ∀ k, (rst l k).length ≤ l.length
  | 0 => Nat.le_refl _
  | k + 1 => by have := rst_length l k; simp only [rst, List.length_drop]; omega
theorem grown_drew {w w' : World} {r : Option Nat} (h : w.drew.grownBy w' r) : w.grownBy w' r := ⟨h.os, h.tape, h.output, h.size, h.block⟩
theorem infoC : (Tryd.prog.info? 48).map (fun i => (i.zero, i.size, i.bytes)) = some (some (.agg #[.int .i32 0, .int .i64 0, .bool false, .bool false]), 4, 24) := by kernel_rfl
theorem infoD : (Tryd.prog.info? 50).map (fun i => (i.zero, i.size, i.bytes)) = some (some (.agg #[.int .i32 0, .int .i64 0, .bool false]), 3, 24) := by kernel_rfl

/-- The loop of ReadRunes. -/
def RunRel (w : World) (l : List UInt8) (n : Nat) (pad : List UInt8) (b g : Nat) (v i : Value) (wr : World) : Prop :=
  ∃ k len off lr, k ≤ n ∧ i = .int .u16 (k : Int) ∧ wr.ownsRow w.heap.size 48 4 v k ((chs l k).flatMap icells) ∧ Buf wr b (some g) (l ++ pad) len off lr ∧ unread (l ++ pad) len off = rst l k ∧ Fr [] w wr

set_option maxHeartbeats 4000000 in
set_option maxRecDepth 100000 in
theorem impl_ReadRunes (l : List UInt8) (n : Nat) (w : World) (a : Addr) (hE : Eof w a) (hT : Tabs w) (hn : n ≤ 65535) (hl : l.length ≤ 9223372036854775807) :
    Calls Tryd.prog 25 #[.string ⟨l.toArray⟩, .int .u16 (n : Int)] w fun e w' => ∃ A' c' s, e = .returned (.tuple #[.slice A' n c', .string ⟨s.toArray⟩]) ∧ Rs w' A' n 4 ((chs l n).flatMap icells) ∧ Hid (s = rst l n) ∧ Fr [] w w' := by
  have hlt0 := hE.lt
  have hltT := hT.lt
  have HE := Lib.hid hE
  have HT := Lib.hid hT
  clear hE hT
  go_enter Tryd.func25, Tryd.ntmps25
  go_wp2_with fail
  refine (NewBufferString _ _ (by omega)).mono ?_
  rintro e w1 ⟨b, g, pad, rfl, hB, hf, hb, hg⟩
  go_wp2_with fail
  go_loopw [7, 15] (fun v i wr => RunRel w l n pad b g v i wr) (fun _ i _ => n - (intOf i).toNat)
  case atStart => exact ⟨0, _, 0, 0, Nat.zero_le _, rfl, own_empty_from w1 w.heap.size 48 4 hf.size, hB.alloc _, by rw [unread_pad]; rfl, hf.alloc _⟩
  case round =>
    obtain ⟨k, len, off, lr, hk, rfl, ho, hB1, hu1, hf1⟩ := hrel
    have HU := Lib.hid hu1
    obtain ⟨A', c', rfl⟩ := own_form ho
    have hne : ∀ y, (Value.slice A' k c').ownBlock = some y → y ∉ [b] := fun y hy => by
      have := own_ne_blk ho hB1.blk (by decide) y hy
      simpa using this
    have hE1 := HE.out.fr hf1 (by simp)
    have hT1 := HT.out.fr_old hf1 (by simp)
    by_cases hlt : k < n
    · have hlen := unread_length (off := off) hB1.len_le
      have hol := hB1.off_le
      by_cases hd : rst l k = []
      · have he : len = off := by rw [hu1, hd] at hlen; simp at hlen; omega
        have HD := Lib.hid hd
        have hr := Lib.hid (Buffer_ReadRune_eof _ hB1 he a hE1 (by omega))
        clear hlen hol hd hu1 he
        go_wp2_with fail
        refine hr.out.mono ?_
        rintro e w2 ⟨rfl, hB2, hf2⟩
        have hE2 := hE1.fr hf2 (by simp; omega)
        have hf12 : Fr [] w w2 := hf1.trans_of hf2 (by simp; omega)
        have ho2 := hf2.own ho hne
        have hsz : w.heap.size ≤ w2.heap.size := hf12.size
        obtain ⟨v', w', hrun, ho', hg', hb'⟩ := run_app (P := Tryd.prog) ((w2.alloc (.cells #[.int .i32 0, .int .i64 0, .bool true, .bool false] 48)).drew) w.heap.size 41 41 41 48 _ 4 24 Tryd.underlying41 infoC rfl (by decide) _ _ _ (own_drewN (ho2.alloc _) 1) _ 1 _
          (src_blk w2.drew #[.int .i32 0, .int .i64 0, .bool true, .bool false] 48 48 41 Tryd.underlying41 4 rfl (by simp [Value.oneCell']) 1) (by omega) (by omega) (by simp; omega)
        have he1 := run_eql_eof a
        have he2 := run_neq_eof a
        unfold Eof at hE2
        have HX := Lib.hid hE1
        have HY := Lib.hid hT1
        have HO2 := Lib.hid ho2
        have HB2 := Lib.hid hB2
        clear hE1 hT1 ho2 hB2 hB1 ho
        go_wp2_with fail
        first
          | go_region_law (refine step_append_run (by rfl) _ _ _ _ (by rfl) (by rfl) (by rfl) hrun ?_)
          | fail
        all_goals
          go_wp2_with fail
          go_roundw
          case rel =>
            refine ⟨k + 1, 0, 0, 0, by omega, by go_num, ?_, HB2.out.app HO2.out (grown_drew hg') (by decide) (by decide), ?_, hf12.app HO2.out (grown_drew hg')⟩
            · rw [chs_succ, recs_snoc, HD.out, chr_nil]
              exact ho'
            · rw [rst, HD.out]
              simp [unread]
          case measure => simp [intOf]; omega
      · have hr := Lib.hid (Buffer_ReadRune _ hB1 (by rw [hu1]; exact hd) hT1)
        have HD := Lib.hid hd
        clear hlen hd hu1
        go_wp2_with fail
        refine hr.out.mono ?_
        rintro e w2 ⟨r, q, rfl, HR, hB2, hf2⟩
        have hE2 := hE1.fr hf2 (by simp; omega)
        have hf12 : Fr [] w w2 := hf1.trans_of hf2 (by simp; omega)
        have ho2 := hf2.own ho hne
        have hsz : w.heap.size ≤ w2.heap.size := hf12.size
        obtain ⟨v', w', hrun, ho', hg', hb'⟩ := run_app (P := Tryd.prog) ((w2.alloc (.cells #[.int .i32 (r : Int), .int .i64 (q : Int), .bool false, .bool false] 48)).drew) w.heap.size 41 41 41 48 _ 4 24 Tryd.underlying41 infoC rfl (by decide) _ _ _ (own_drewN (ho2.alloc _) 1) _ 1 _
          (src_blk w2.drew #[.int .i32 (r : Int), .int .i64 (q : Int), .bool false, .bool false] 48 48 41 Tryd.underlying41 4 rfl (by simp [Value.oneCell']) 1) (by omega) (by omega) (by simp; omega)
        have he1 := fun W => run_eql_iface_nil_left (P := Tryd.prog) W 167 (.pointer (some a)) Tryd.underlying85
        unfold Eof at hE2
        have HX := Lib.hid hE1
        have HY := Lib.hid hT1
        have HO2 := Lib.hid ho2
        have HB2 := Lib.hid hB2
        clear hE1 hT1 ho2 hB2 hB1 ho
        go_wp2_with fail
        first
          | go_region_law (refine step_append_run (by rfl) _ _ _ _ (by rfl) (by rfl) (by rfl) hrun ?_)
          | fail
        all_goals
          go_wp2_with fail
          go_roundw
          case rel =>
            have h1 : (r, q) = dec (rst l k) := by rw [HR.out, HU.out]
            refine ⟨k + 1, len, off + q, (q : Int), by omega, by go_num, ?_, HB2.out.app HO2.out (grown_drew hg') (by decide) (by decide), ?_, hf12.app HO2.out (grown_drew hg')⟩
            · rw [chs_succ, recs_snoc, chr_cons HD.out, ← h1]
              exact ho'
            · rw [rst, chr_cons HD.out, ← h1, ← HU.out]
              simp [unread, List.drop_drop]
          case measure => simp [intOf]; omega
    · go_wp2_with fail
      refine (Buffer_String _ hB1).mono ?_
      rintro e w2 ⟨s, rfl, H2, k2, rfl⟩
      go_wp2_with fail
      go_ret2
      obtain rfl : k = n := by omega
      refine ⟨_, _, _, rfl, own_rs (own_drewN ho k2), ?_, hf1.drewN _⟩
      show s = _
      rw [H2.out, HU.out]

end Go.Proofs.YtnpaokglfkocnaaDoor
