/- Builders: written with strings, slices, single bytes. -/
import Derived.Test.YtgniidnbpkhmcaaDoorNums
import Derived.Test.YtgniidnbpkhmcaaDoorBldGrow
namespace Go.Proofs.YtgniidnbpkhmcaaDoor
open Go.RowKit
set_option linter.unusedVariables false
attribute [local go_sem ↓] Go.wp_at_zero Go.wp_at_succ

theorem Bld.own_ne {w : World} {b : Nat} {g : Option Nat} {row : List UInt8} {len : Nat} {base : Nat} {e : TypeId} {size n : Nat} {v : Value} {xs : List Value} (hB : Bld w b g row len) (ho : w.ownsRow base e size v n xs) (he : e ≠ 59) (he5 : e ≠ 5) : ∀ y, v.ownBlock = some y → y ∉ b :: g.toList := by
  obtain ⟨p, hp, hB⟩ := hB
  intro y hy
  have hbb := own_ne_blk ho hB.blk he y hy
  intro hm
  rcases List.mem_cons.1 hm with h1 | h1
  · exact hbb h1
  · simp only [Option.mem_toList] at h1
    obtain ⟨lo, hi, hr, _⟩ := (hB.some_ y h1).2
    rcases ho.2 with ⟨rfl, _⟩ | ⟨g', cap, cur, rfl, _, hh, _⟩
    · simp [Value.ownBlock] at hy
    · simp [Value.ownBlock] at hy
      subst hy
      rw [hr] at hh
      injection hh with hh
      injection hh with _ ht
      exact he5 ht.symm
theorem slv_new2 (w : World) (cs : Array Value) (e : TypeId) : Slv (w.alloc (.cells cs e)) (some ⟨w.heap.size, 0, none⟩) cs.size cs.toList := by
  refine ⟨by simp, fun j hj => ⟨_, rfl, ?_⟩⟩
  rw [add_at, Nat.zero_add, cell_of_row _ _ j cs e (0, 0) (heap_alloc_new w _)]
  simp at hj
  simp [hj]
theorem own_empty_at (w : World) (W : Nat) (e : TypeId) (size : Nat) (hW : W ≤ w.heap.size) : (w.alloc (.cells #[] e)).ownsRow W e size (.slice (some ⟨w.heap.size, 0, none⟩) 0 0) 0 [] :=
  ⟨by simp, .inr ⟨w.heap.size, 0, #[], rfl, hW, heap_alloc_new w _, Nat.le_refl _, Nat.zero_le _, by simp, by simp⟩⟩
/-- A builder that the call has made, with what it holds. -/
structure Bs (W : Nat) (wr : World) (b : Nat) (s : List UInt8) (g : Option Nat) (row : List UInt8) (len : Nat) : Prop where
  bld : Bld wr b g row len
  reads : row.take len = s
  new_ : ∀ x, g = some x → W ≤ x
  b_ : W ≤ b
theorem Bs.len {W : Nat} {wr : World} {b : Nat} {s : List UInt8} {g : Option Nat} {row : List UInt8} {len : Nat} (h : Bs W wr b s g row len) : len = s.length := by
  have := h.bld.len_le
  rw [← h.reads]
  simp
  omega
theorem Bs.made (w : World) : Bs w.heap.size (w.alloc (.cells #[.pointer none, .slice none 0 0] 59)) w.heap.size [] none [] 0 := ⟨Bld.made w, rfl, by simp, Nat.le_refl _⟩
theorem Bs.wrote {W : Nat} {wr w2 : World} {b : Nat} {s l : List UInt8} {g g2 : Option Nat} {row row2 : List UInt8} {len len2 : Nat} (h : Bs W wr b s g row len) (hW : W ≤ wr.heap.size) (hw : Wrote wr w2 b g row len l g2 row2 len2) : Bs W w2 b (s ++ l) g2 row2 len2 :=
  ⟨hw.bld, by rw [hw.reads, h.reads], fun x e => by
    rcases hw.at_ x e with h1 | h1
    · exact h.new_ x h1
    · omega, h.b_⟩
theorem Bs.frs {W : Nat} {wr w2 : World} {b : Nat} {s l : List UInt8} {g g2 : Option Nat} {row row2 : List UInt8} {len len2 : Nat} (h : Bs W wr b s g row len) {S : List Nat} {w : World} (hf : Fr S w wr) (hW : w.heap.size = W) (hw : Wrote wr w2 b g row len l g2 row2 len2) : Fr S w w2 :=
  hf.trans_of hw.fr (fun i hi => by
    rcases List.mem_cons.1 hi with h1 | h1
    · have := h.b_; exact .inr (by omega)
    · simp only [Option.mem_toList] at h1; have := h.new_ i h1; exact .inr (by omega))

theorem impl_BuildSingles (A : Option Addr) (n c : Nat) (l : List UInt8) (w : World) (hS : Sl w A n l) (hN : n ≤ 140737488351232) :
    Calls Tryd.prog 13 #[.slice A n c] w fun e w' => ∃ s, e = .returned (.tuple #[.bool true, .string ⟨s.toArray⟩]) ∧ Hid (s = l) ∧ Fr [] w w' := by
  have HN := Lib.hid hS.1
  go_enter Tryd.func13, Tryd.ntmps13
  go_wp2_with fail
  go_loopw [5, 11] (fun v i wr => ∃ k g row len, k ≤ n ∧ v = .bool true ∧ i = .int .i64 (k : Int) ∧ Bs w.heap.size wr w.heap.size (l.take k) g row len ∧ Fr [] w wr) (fun _ i _ => n - (intOf i).toNat)
  case atStart => exact ⟨0, _, _, _, Nat.zero_le _, rfl, rfl, Bs.made w, (Fr.refl [] w).alloc _⟩
  case round =>
    obtain ⟨k, g, row, len, hk, rfl, rfl, hB, hf⟩ := hrel
    by_cases hlt : k < n
    · obtain ⟨ad, rfl, hc⟩ := (hS.fr_old' hf).2 k (by have := HN.out; omega)
      have hx : l[k]? = some (l[k]'(by have := HN.out; omega)) := List.getElem?_eq_getElem _
      generalize l[k]'(by have := HN.out; omega) = x at hc hx
      have HX := Lib.hid hx
      clear hx
      simp only [bv] at hc
      have hlen := hB.len
      simp at hlen
      have hw := Builder_WriteByte wr hB.bld x (by omega)
      have HB := Lib.hid hB
      clear hB hlen
      go_wp2_with fail
      refine hw.mono ?_
      rintro e w2 ⟨g2, row2, len2, rfl, hw2⟩
      go_wp2_with fail
      go_roundw
      case rel =>
        refine ⟨k + 1, g2, row2, len2, by omega, rfl, by go_num, ?_, HB.out.frs hf rfl hw2⟩
        rw [take_next l k x HX.out]
        exact HB.out.wrote hf.size hw2
      case measure => simp [intOf]; omega
    · obtain rfl : k = n := by omega
      have HB := Lib.hid hB
      have hst := Builder_String wr hB.bld
      clear hB
      go_wp2_with fail
      refine hst.mono ?_
      rintro e w2 ⟨s, rfl, H2, hB2, hf2⟩
      go_wp2_with fail
      go_ret2
      refine ⟨_, rfl, ?_, hf.trans_of hf2 (fun i hi => by simp only [Option.mem_toList] at hi; exact .inr (HB.out.new_ i hi))⟩
      show s = l
      rw [H2.out, HB.out.reads, List.take_of_length_le (by have := HN.out; omega)]

/-- The loop of BuildStrings. -/
def BstRel (w : World) (ls : List (List UInt8)) (v i : Value) (wr : World) : Prop :=
  ∃ k g row len, k ≤ ls.length ∧ i = .int .i64 (k : Int) ∧ wr.ownsRow w.heap.size 3 1 v k (((ls.take k).map List.length).map iv) ∧ Bs w.heap.size wr w.heap.size ((ls.take k).flatten) g row len ∧ Fr [] w wr

theorem bst_round {w wr w2 w' : World} {ls : List (List UInt8)} {k : Nat} {x : List UInt8} {g g2 : Option Nat} {row row2 : List UInt8} {len len2 : Nat} {v v' : Value} {o : Obj} (hk : k < ls.length) (hx : ls[k]? = some x) (hB : Bs w.heap.size wr w.heap.size ((ls.take k).flatten) g row len) (hf : Fr [] w wr)
    (hw : Wrote wr w2 w.heap.size g row len x g2 row2 len2) (ho : w2.ownsRow w.heap.size 3 1 v k (((ls.take k).map List.length).map iv)) (ho' : w'.ownsRow w.heap.size 3 1 v' (k + 1) (((ls.take k).map List.length).map iv ++ [.int .i64 (x.length : Int)])) (hg : (w2.alloc o).grownBy w' v.ownBlock) :
    BstRel w ls v' (.int .i64 ((k + 1 : Nat) : Int)) w' := by
  have hf2 := hB.frs hf rfl hw
  refine ⟨k + 1, g2, row2, len2, by omega, rfl, ?_, ?_, Fr.app hf2 ho hg⟩
  · rw [take_next ls k x hx, List.map_append, List.map_append]
    exact ho'
  · have hB2 := hB.wrote hf.size hw
    rw [flat_next ls k x hx]
    exact ⟨hB2.bld.app ho hg (by decide) (by decide), hB2.reads, hB2.new_, hB2.b_⟩

set_option maxHeartbeats 800000 in
theorem impl_BuildStrings (A : Option Addr) (n c : Nat) (ls : List (List UInt8)) (w : World) (hS : Slv w A n (ls.map sv)) (hN : (ls.map List.length).sum + n ≤ 2097152) :
    Calls Tryd.prog 9 #[.slice A n c] w fun e w' => ∃ A' c' s, e = .returned (.tuple #[.slice A' n c', .string ⟨s.toArray⟩, .int .i64 (s.length : Int)]) ∧ Slv w' A' n ((ls.map List.length).map iv) ∧ Hid (s = ls.flatten) ∧ Fr [] w w' := by
  have hn : n = ls.length := by have := hS.1; simpa using this
  have HN := Lib.hid hn
  clear hn
  go_enter Tryd.func9, Tryd.ntmps9
  go_wp2_with fail
  go_loopw [6, 15] (fun v i wr => BstRel w ls v i wr) (fun _ i _ => n - (intOf i).toNat)
  case atStart =>
    refine ⟨0, _, _, _, Nat.zero_le _, rfl, ?_, ⟨(Bs.made w).bld.alloc _, rfl, (Bs.made w).new_, Nat.le_refl _⟩, ((Fr.refl [] w).alloc _).alloc _⟩
    have := own_empty_at (w.alloc (.cells #[.pointer none, .slice none 0 0] 59)) w.heap.size 3 1 (by simp)
    simpa using this
  case round =>
    obtain ⟨k, g, row, len, hk, rfl, ho, hB, hf1⟩ := hrel
    obtain ⟨A', c', rfl⟩ := own_form ho
    by_cases hlt : k < n
    · obtain ⟨ad, x, rfl, hx, hc⟩ := (hS.fr_old hf1 (by simp)).text hlt
      have hsum := len_le_sum ls k x hx
      have HX := Lib.hid hx
      clear hx
      have hlen := hB.len
      have hw := Builder_WriteString wr hB.bld x (by omega)
      have hne := hB.bld.own_ne ho (by decide) (by decide)
      have HB := Lib.hid hB
      clear hB hlen
      go_wp2_with fail
      refine hw.mono ?_
      rintro e w2 ⟨g2, row2, len2, rfl, hw2⟩
      have ho2 := hw2.fr.own ho hne
      have hsz : w.heap.size ≤ w2.heap.size := Nat.le_trans hf1.size hw2.fr.size
      obtain ⟨v', w', hrun, ho', hg', hb'⟩ := run_app (P := Tryd.prog) (w2.alloc (.cells #[.int .i64 (x.length : Int)] 3)) w.heap.size 26 26 26 3 _ 1 8 Tryd.underlying26 infoI rfl (by decide) _ _ _ (ho2.alloc _) _ 1 _
        (src_one w2 (.int .i64 (x.length : Int)) 3 3 26 Tryd.underlying26 rfl 1) (by omega) (by omega) (by simp; omega)
      go_wp2_with (at_builtin; refine wpList_append_run rfl _ _ _ _ rfl rfl rfl hrun ?_)
      go_roundw
      case rel => exact bst_round (by have := HN.out; omega) HX.out HB.out hf1 hw2 ho2 ho' hg'
      case measure => simp [intOf]; omega
    · obtain rfl : k = n := by have := HN.out; omega
      have HB := Lib.hid hB
      have hst := Builder_String wr hB.bld
      clear hB
      go_wp2_with fail
      refine hst.mono ?_
      rintro e w2 ⟨s, rfl, H2, hB2, hf2⟩
      have hlen := Builder_Len w2 hB2
      go_wp2_with fail
      refine hlen.mono ?_
      rintro e w3 ⟨rfl, rfl⟩
      have hne := HB.out.bld.own_ne ho (by decide) (by decide)
      have ho2 := hf2.own ho (fun y hy hm => hne y hy (List.mem_cons_of_mem _ hm))
      have hs : s = ls.flatten := by rw [H2.out, HB.out.reads, List.take_of_length_le (by have := HN.out; omega)]
      have hl : len = s.length := by
        have := HB.out.len
        rw [List.take_of_length_le (by have := HN.out; omega), ← hs] at this
        exact this
      subst hl
      have HS := Lib.hid hs
      clear hs
      go_wp2_with fail
      go_ret3
      have hv := own_slv ho2
      rw [List.take_of_length_le (by have := HN.out; omega)] at hv
      exact ⟨_, _, _, rfl, hv, HS, hf1.trans_of hf2 (fun i hi => by simp only [Option.mem_toList] at hi; exact .inr (HB.out.new_ i hi))⟩

end Go.Proofs.YtgniidnbpkhmcaaDoor
