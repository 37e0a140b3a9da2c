/- Builders: reset, grown. -/
import Derived.Test.YtgniidnbpkhmcaaLawR
import Derived.Test.YtgniidnbpkhmcaaLawC
import Derived.Defers
import Derived.Recover
namespace Go.Proofs.Ytgniidnbpkhmcaa
open Go.RowKit
set_option linter.unusedVariables false
attribute [local go_sem ↓] Go.wp_at_zero Go.wp_at_succ

theorem Builder_Reset {b : Nat} {g : Option Nat} {row : List UInt8} {len : Nat} (w : World) (h : Bld w b g row len) : Calls Try.prog 33 #[.pointer (some ⟨b, 0, none⟩)] w fun e w' => e = .returned (.tuple #[]) ∧ Bld w' b none [] 0 ∧ Fr [b] w w' := by
  obtain ⟨p, hp, h⟩ := h
  have c0 := h.c0
  have c1 := h.c1
  have f0 := h.fz 0
  have f1 := h.fz 1
  have hk := Lib.hid h.blk
  clear h hp
  generalize (g.map fun g => (⟨g, 0, none⟩ : Addr)) = A at *
  generalize row.length = cap at *
  go_enter Try.func33, Try.ntmps33
  go_wp2
  go_end0
  exact ⟨rfl, ⟨_, .inl rfl, (hk.out.set_ 0 _).set_ 1 _, Nat.le_refl _, by simp, by simp, by simp⟩, ((Fr.refl [b] w).setCell (.inl (by simp)) _).setCell (.inl (by simp)) _⟩

/-- Each text, and nothing behind it. -/
def twice (ls : List (List UInt8)) : List (List UInt8) := (ls.map fun x => [x, []]).flatten
theorem twice_length (ls : List (List UInt8)) : (twice ls).length = 2 * ls.length := by
  induction ls with
  | nil => rfl
  | cons x r ih => simp only [twice, List.map_cons, List.flatten_cons, List.length_append, List.length_cons, List.length_nil] at ih ⊢; omega
theorem twice_next (ls : List (List UInt8)) (k : Nat) (x : List UInt8) (h : ls[k]? = some x) : twice (ls.take (k + 1)) = twice (ls.take k) ++ [x] ++ [[]] := by
  rw [take_next ls k x h]
  simp [twice]

/-- The loop of RebuildStrings. -/
def RebRel (w : World) (ls : List (List UInt8)) (v i : Value) (wr : World) : Prop :=
  ∃ k g row len, k ≤ ls.length ∧ i = .int .i64 (k : Int) ∧ wr.ownsRow w.heap.size 9 1 v (2 * k) ((twice (ls.take k)).map sv) ∧ Bs w.heap.size wr w.heap.size [] g row len ∧ Fr [] w wr

theorem Fr.bs {W : Nat} {w wr w2 : World} {b : Nat} {s : List UInt8} {g : Option Nat} {row : List UInt8} {len : Nat} {S T : List Nat} (hB : Bs W wr b s g row len) (hf : Fr S w wr) (hW : w.heap.size = W) (hf2 : Fr T wr w2) (hT : ∀ i ∈ T, i ∈ b :: g.toList) : Fr S w w2 :=
  hf.trans_of hf2 (fun i hi => by
    rcases List.mem_cons.1 (hT i hi) with h1 | h1
    · have := hB.b_; exact .inr (by omega)
    · simp only [Option.mem_toList] at h1; have := hB.new_ i h1; exact .inr (by omega))

set_option maxHeartbeats 1600000 in
theorem impl_RebuildStrings (A : Option Addr) (n c : Nat) (ls : List (List UInt8)) (w : World) (hS : Slv w A n (ls.map sv)) (hN : (ls.map List.length).sum + n ≤ 2097152) :
    Calls Try.prog 19 #[.slice A n c] w fun e w' => ∃ A' c', e = .returned (.slice A' (2 * n) c') ∧ Slv w' A' (2 * n) ((twice ls).map sv) ∧ Fr [] w w' := by
  have hn : n = ls.length := by have := hS.1; simpa using this
  have HN := Lib.hid hn
  clear hn
  go_enter Try.func19, Try.ntmps19
  go_wp2_with fail
  go_loopw [4, 11] (fun v i wr => RebRel w ls v i wr) (fun _ i _ => n - (intOf i).toNat)
  case atStart =>
    refine ⟨0, _, _, _, Nat.zero_le _, rfl, ?_, ⟨(Bs.made w).bld.alloc _, rfl, (Bs.made w).new_, Nat.le_refl _⟩, ((Fr.refl [] w).alloc _).alloc _⟩
    have := own_empty_at (w.alloc (.cells #[.pointer none, .slice none 0 0] 55)) w.heap.size 9 1 (by simp)
    simpa [twice] using this
  case round =>
    obtain ⟨k, g, row, len, hk, rfl, ho, hB, hf1⟩ := hrel
    obtain ⟨A', c', rfl⟩ := own_form ho
    by_cases hlt : k < n
    · obtain ⟨ad, x, rfl, hx, hc⟩ := (hS.fr_old hf1 (by simp)).text hlt
      have hsum := len_le_sum ls k x hx
      have HX := Lib.hid hx
      clear hx
      have hlen := hB.len
      simp only [List.length_nil] at hlen
      have hw := Builder_WriteString wr hB.bld x (by omega)
      have hne := hB.bld.own_ne ho (by decide) (by decide)
      have HB := Lib.hid hB
      clear hB hlen
      go_wp2_with fail
      refine hw.mono ?_
      rintro e w2 ⟨g2, row2, len2, rfl, hw2⟩
      have ho2 := hw2.fr.own ho hne
      have hf2 := HB.out.frs hf1 rfl hw2
      have hB2 := HB.out.wrote hf1.size hw2
      simp only [List.nil_append] at hB2
      have hst := Builder_String w2 hB2.bld
      have hne2 := hB2.bld.own_ne ho2 (by decide) (by decide)
      have HB2 := Lib.hid hB2
      have HW2 := Lib.hid hw2
      clear hB2 hw2
      go_wp2_with fail
      refine hst.mono ?_
      rintro e w3 ⟨s, rfl, H3, hB3, hf3⟩
      have ho3 := hf3.own ho2 (fun y hy hm => hne2 y hy (List.mem_cons_of_mem _ hm))
      have hf13 := Fr.bs HB2.out hf2 rfl hf3 (fun i hi => List.mem_cons_of_mem _ hi)
      obtain rfl : x = s := by rw [H3.out, HB2.out.reads]
      clear H3
      have hsz3 : w.heap.size ≤ w3.heap.size := hf13.size
      obtain ⟨v4, w4, hrun, ho4, hg4, hb4⟩ := run_app (P := Try.prog) (w3.alloc (.cells #[.string ⟨x.toArray⟩] 9)) w.heap.size 32 32 32 9 _ 1 16 Try.underlying32 infoStr rfl (by decide) _ _ _ (ho3.alloc _) _ 1 _
        (src_one w3 (.string ⟨x.toArray⟩) 9 9 32 Try.underlying32 rfl 1) (by omega) (by omega) (by simp; omega)
      have hf14 := Fr.app hf13 ho3 hg4
      have hB4 := hB3.app ho3 hg4 (by decide) (by decide)
      have hrs := Builder_Reset w4 hB4
      have hne4 := hB4.own_ne ho4 (by decide) (by decide)
      obtain ⟨A4, c4, rfl⟩ := own_form ho4
      have HB4 := Lib.hid hB4
      clear hB4 hB3
      go_wp2_with (at_builtin; refine wpList_append_run rfl _ _ _ _ rfl rfl rfl hrun ?_)
      refine hrs.mono ?_
      rintro e w5 ⟨rfl, hB5, hf5⟩
      have ho5 := hf5.own ho4 (fun y hy hm => hne4 y hy (by simp at hm; simp [hm]))
      have hf15 := hf14.trans_of hf5 (by simp)
      have hst5 := Builder_String w5 hB5
      go_wp2_with fail
      refine hst5.mono ?_
      rintro e w6 ⟨s6, rfl, H6, hB6, hf6⟩
      have hs6 : s6 = [] := by rw [H6.out]; rfl
      subst hs6
      clear H6
      have ho6 := hf6.own ho5 (by simp)
      have hf16 := hf15.trans_of hf6 (by simp)
      have hsz6 : w.heap.size ≤ w6.heap.size := hf16.size
      obtain ⟨v7, w7, hrun7, ho7, hg7, hb7⟩ := run_app (P := Try.prog) (w6.alloc (.cells #[.string ⟨#[]⟩] 9)) w.heap.size 32 32 32 9 _ 1 16 Try.underlying32 infoStr rfl (by decide) _ _ _ (ho6.alloc _) _ 1 _
        (src_one w6 (.string ⟨#[]⟩) 9 9 32 Try.underlying32 rfl 1) (by omega) (by omega) (by simp; omega)
      have hf17 := Fr.app hf16 ho6 hg7
      have hB7 := hB6.app ho6 hg7 (by decide) (by decide)
      go_wp2_with (at_builtin; refine wpList_append_run rfl _ _ _ _ rfl rfl rfl hrun7 ?_)
      go_roundw
      case rel =>
        refine ⟨k + 1, none, [], 0, by have := HN.out; omega, by go_num, ?_, ⟨hB7, rfl, by simp, Nat.le_refl _⟩, hf17⟩
        rw [twice_next ls k x HX.out, List.map_append, List.map_append]
        exact ho7
      case measure => simp [intOf]; omega
    · go_wp2_with fail
      go_ret
      obtain rfl : k = n := by have := HN.out; omega
      have := own_slv ho
      rw [List.take_of_length_le (by have := HN.out; omega)] at this
      exact ⟨_, _, rfl, this, hf1⟩

/-- The loop of the law. -/
def WantRel (w : World) (ls : List (List UInt8)) (v i : Value) (wr : World) : Prop :=
  ∃ k, k ≤ ls.length ∧ i = .int .i64 (k : Int) ∧ wr.ownsRow w.heap.size 9 1 v (2 * k) ((twice (ls.take k)).map sv) ∧ Fr [] w wr

set_option maxHeartbeats 800000 in
theorem FnExactRebuildStrings_walk (A : Option Addr) (n c : Nat) (ls : List (List UInt8)) (w : World) (hS : Slv w A n (ls.map sv)) (hls : ∀ x ∈ ls, x.length ≤ 9223372036854775807) (hN : (ls.map List.length).sum + n ≤ 1048576) :
    Calls Try.prog 6 #[.slice A n c] w fun e w' => e = .returned (.bool true) ∧ Below w.heap.size w w' := by
  have hn : n = ls.length := by have := hS.1; simpa using this
  have HN := Lib.hid hn
  clear hn hls
  go_enter Try.func6, Try.ntmps6
  go_wp2_with fail
  go_loopw [3, 9] (fun v i wr => WantRel w ls v i wr) (fun _ i _ => n - (intOf i).toNat)
  case atStart => exact ⟨0, Nat.zero_le _, rfl, own_empty w 9 1, (Fr.refl [] w).alloc _⟩
  case round =>
    obtain ⟨k, hk, rfl, ho, hf1⟩ := hrel
    obtain ⟨A', c', rfl⟩ := own_form ho
    by_cases hlt : k < n
    · obtain ⟨ad, x, rfl, hx, hc⟩ := (hS.fr_old hf1 (by simp)).text hlt
      have HX := Lib.hid hx
      clear hx
      have hsz : w.heap.size ≤ wr.heap.size := hf1.size
      obtain ⟨v', w', hrun, ho', hg', hb'⟩ := run_app (P := Try.prog) (wr.alloc (.cells #[.string ⟨x.toArray⟩, .string ⟨#[]⟩] 9)) w.heap.size 32 32 32 9 _ 1 16 Try.underlying32 infoStr rfl (by decide) _ _ _ (ho.alloc _) _ 2 _
        ((slv_new2 wr #[.string ⟨x.toArray⟩, .string ⟨#[]⟩] 9).src (P := Try.prog) Try.underlying32 2 (by simp; exact ⟨rfl, rfl⟩)) (by omega) (by omega) (by simp; omega)
      go_wp2_with (at_builtin; refine wpList_append_run rfl _ _ _ _ rfl rfl rfl hrun ?_)
      go_roundw
      case rel =>
        refine ⟨k + 1, by have := HN.out; omega, by go_num, ?_, Fr.app hf1 ho hg'⟩
        rw [twice_next ls k x HX.out, List.append_assoc, List.map_append]
        exact ho'
      case measure => simp [intOf]; omega
    · obtain rfl : k = n := by have := HN.out; omega
      have hv := own_slv ho
      rw [List.take_of_length_le (by have := HN.out; omega)] at hv
      go_wp2_with fail
      refine (impl_RebuildStrings A k c ls wr (hS.fr_old hf1 (by simp)) (by omega)).mono ?_
      rintro e w2 ⟨A2, c2, rfl, hS2, hf2⟩
      go_wp2_with fail
      refine (sameTexts_true A2 A' (2 * k) c2 c' _ w2 hS2 (hv.fr_old hf2 (by simp)) (by omega)).mono ?_
      rintro e w3 ⟨rfl, hf3⟩
      go_wp2_with fail
      go_ret
      exact ⟨rfl, ((hf1.trans hf2).trans hf3).below (Nat.le_refl _) (by simp)⟩

/-- The loop of GrowAndBuild. -/
theorem impl_GrowAndBuild (l : List UInt8) (n : Nat) (x : UInt8) (w : World) (hN : l.length ≤ 2097152) (hn : n ≤ 65535) :
    Calls Try.prog 22 #[.string ⟨l.toArray⟩, .int .u16 (n : Int), .int .u8 (x.toNat : Int)] w fun e w' => ∃ (c : Nat) (s : List UInt8), e = .returned (.tuple #[.int .i64 (c : Int), .int .i64 (c : Int), .string ⟨s.toArray⟩]) ∧ l.length + n ≤ c ∧ Hid (s = l ++ List.replicate n x) ∧ Fr [] w w' := by
  have h1 := Lib.hid (Builder_WriteString _ (Bs.made w).bld l (by omega))
  go_enter Try.func22, Try.ntmps22
  go_wp2_with fail
  refine h1.out.mono ?_
  rintro e w1 ⟨g1, row1, len1, rfl, hw1⟩
  have hB1 := (Bs.made w).wrote (by simp) hw1
  have hf1 := (Bs.made w).frs ((Fr.refl [] w).alloc _) rfl hw1
  simp only [List.nil_append] at hB1
  have hl1 := hB1.len
  have h2 := Lib.hid (Builder_Grow w1 hB1.bld n (by omega))
  have HB1 := Lib.hid hB1
  clear hB1 hw1 hl1
  go_wp2_with fail
  refine h2.out.mono ?_
  rintro e w2 ⟨g2, row2, rfl, hB2, H2, hf2, hg2⟩
  have hB2s : Bs w.heap.size w2 w.heap.size l g2 row2 len1 := ⟨hB2, by rw [H2.out.1, HB1.out.reads], fun y e => by
    rcases hg2 y e with h3 | h3
    · exact HB1.out.new_ y h3
    · exact Nat.le_trans hf1.size h3, Nat.le_refl _⟩
  have hf12 := hf1.trans_of hf2 (by simp)
  have hcap : l.length + n ≤ row2.length := by have := H2.out.2; have := HB1.out.len; omega
  have h3 := Lib.hid (Builder_Cap w2 hB2)
  have HB2 := Lib.hid hB2s
  clear hB2 hB2s H2
  go_wp2_with fail
  refine h3.out.mono ?_
  rintro e w3 ⟨rfl, rfl⟩
  generalize hC : row2.length = C at *
  have HC := Lib.hid hC
  clear hC
  go_wp2_with fail
  go_loopw [19] (fun i wr => ∃ k g row len, k ≤ n ∧ i = .int .u16 (k : Int) ∧ Bs w.heap.size wr w.heap.size (l ++ List.replicate k x) g row len ∧ Hid (row.length = C) ∧ Fr [] w wr) (fun i _ => n - (intOf i).toNat)
  case atStart => exact ⟨0, _, _, _, Nat.zero_le _, rfl, by simpa using HB2.out, HC, hf12⟩
  case round =>
    obtain ⟨k, g, row, len, hk, rfl, hB, HR, hf⟩ := hrel
    by_cases hlt : k < n
    · have hlen := hB.len
      simp at hlen
      have hw := Builder_WriteByte wr hB.bld x (by omega)
      have HB := Lib.hid hB
      clear hB hlen
      go_wp2_with fail
      refine hw.mono ?_
      rintro e w4 ⟨g4, row4, len4, rfl, hw4⟩
      go_wp2_with fail
      go_roundw
      case rel =>
        refine ⟨k + 1, g4, row4, len4, by omega, by go_num, ?_, ?_, HB.out.frs hf rfl hw4⟩
        · have := HB.out.wrote hf.size hw4
          rw [List.append_assoc, ← List.replicate_succ'] at this
          exact this
        · show _ = _
          have h5 := HB.out.len
          have h6 := HR.out
          simp at h5
          rw [hw4.keeps (by simp; omega)]
          exact h6
      case measure => simp [intOf]; omega
    · obtain rfl : k = n := by omega
      have hc := Lib.hid (Builder_Cap wr hB.bld)
      have hst := Lib.hid (Builder_String wr hB.bld)
      have HB := Lib.hid hB
      clear hB
      go_wp2_with fail
      refine hc.out.mono ?_
      rintro e w4 ⟨rfl, rfl⟩
      go_wp2_with fail
      refine hst.out.mono ?_
      rintro e w5 ⟨s, rfl, H5, hB5, hf5⟩
      rw [HR.out]
      go_wp2_with fail
      go_ret3
      exact ⟨C, s, rfl, hcap, by show _ = _; rw [H5.out, HB.out.reads], Fr.bs HB.out hf rfl hf5 (fun i hi => List.mem_cons_of_mem _ hi)⟩

theorem FnExactGrowAndBuild_walk (l : List UInt8) (n : Nat) (x : UInt8) (w : World) (hl : l.length ≤ 9223372036854775807) (hn : n ≤ 65535) (hN : l.length ≤ 1048576) :
    Calls Try.prog 8 #[.string ⟨l.toArray⟩, .int .u16 (n : Int), .int .u8 (x.toNat : Int)] w fun e w' => e = .returned (.bool true) ∧ Below w.heap.size w w' := by
  go_enter Try.func8, Try.ntmps8
  go_wp2_with fail
  refine (impl_GrowAndBuild l n x w (by omega) hn).mono ?_
  rintro e w1 ⟨c, s, rfl, hc, H1, hf1⟩
  have hcd : decide ((l.length : Int) + (n : Int) ≤ (c : Int)) = true := by simp; omega
  go_wp2_with fail
  refine (laws_repeated x n w1 (by omega)).mono ?_
  rintro e w2 ⟨s2, rfl, H2, hf2⟩
  have h2l : s2.length ≤ 65535 := by rw [H2.out]; simp; omega
  go_wp2_with fail
  go_ret
  exact ⟨ret_true (by rw [H1.out, H2.out]; simp), (hf1.trans hf2).below (Nat.le_refl _) (by simp)⟩

end Go.Proofs.Ytgniidnbpkhmcaa
