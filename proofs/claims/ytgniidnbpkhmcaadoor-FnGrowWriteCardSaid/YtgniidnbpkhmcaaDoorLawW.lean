/- Buffers: written with strings and single bytes. -/
import Derived.Test.YtgniidnbpkhmcaaDoorWrite
import Derived.Test.YtgniidnbpkhmcaaDoorNums
namespace Go.Proofs.YtgniidnbpkhmcaaDoor
open Go.RowKit
set_option linter.unusedVariables false
attribute [local go_sem ↓] Go.wp_at_zero Go.wp_at_succ

/-- A buffer that the call has made, with what is unread. -/
structure Bw (W : Nat) (wr : World) (b : Nat) (s : List UInt8) (g : Option Nat) (row : List UInt8) (len off : Nat) (lr : Int) : Prop where
  buf : Buf wr b g row len off lr
  reads : unread row len off = s
  new_ : ∀ x, g = some x → W ≤ x
  b_ : W ≤ b
section
variable {W : Nat} {wr w2 w' : World} {b : Nat} {s l : List UInt8} {g g2 : Option Nat} {row row2 : List UInt8} {len off len2 off2 : Nat} {lr : Int}
theorem Bw.len_ (h : Bw W wr b s g row len off lr) : len - off = s.length := by rw [← h.reads, unread_length h.buf.len_le]
theorem Bw.put (h : Bw W wr b s g row len off lr) (hW : W ≤ wr.heap.size) (hp : Put wr w2 b g row len off l g2 row2 len2 off2) : Bw W w2 b (s ++ l) g2 row2 len2 off2 0 :=
  ⟨hp.buf, by rw [hp.reads, h.reads], fun x e => by
    rcases hp.at_ x e with h1 | h1
    · exact h.new_ x h1
    · omega, h.b_⟩
theorem Bw.fr_ (h : Bw W wr b s g row len off lr) {S T : List Nat} {w : World} (hf : Fr S w wr) (hW : w.heap.size = W) (hf2 : Fr T wr w2) (hT : ∀ i ∈ T, i ∈ b :: g.toList) : Fr S w w2 :=
  hf.trans_of hf2 (fun i hi => by
    rcases List.mem_cons.1 (hT i hi) with h1 | h1
    · have := h.b_; exact .inr (by omega)
    · simp only [Option.mem_toList] at h1; have := h.new_ i h1; exact .inr (by omega))
theorem Bw.drewN (h : Bw W wr b s g row len off lr) (n : Nat) : Bw W (wr.drewN n) b s g row len off lr := ⟨h.buf.drewN n, h.reads, h.new_, h.b_⟩
theorem Bw.alloc (h : Bw W wr b s g row len off lr) (o : Obj) : Bw W (wr.alloc o) b s g row len off lr := ⟨h.buf.alloc o, h.reads, h.new_, h.b_⟩
theorem Bw.own_ne {base : Nat} {e : TypeId} {size n : Nat} {v : Value} {xs : List Value} (h : Bw W wr b s g row len off lr) (ho : wr.ownsRow base e size v n xs) (he : e ≠ 81) (he5 : e ≠ 5) : ∀ y, v.ownBlock = some y → y ∉ b :: g.toList := by
  intro y hy hm
  rcases List.mem_cons.1 hm with h1 | h1
  · exact own_ne_blk ho h.buf.blk he y hy h1
  · simp only [Option.mem_toList] at h1
    exact own_ne_row ho (h.buf.some_ y h1).2 he5 y hy rfl
theorem Bw.app {base : Nat} {e : TypeId} {size n : Nat} {v : Value} {xs : List Value} {o : Obj} (h : Bw W w2 b s g row len off lr) (ho : w2.ownsRow base e size v n xs) (hg : (w2.alloc o).grownBy w' v.ownBlock) (he : e ≠ 81) (he5 : e ≠ 5) : Bw W w' b s g row len off lr :=
  ⟨h.buf.app ho hg he he5, h.reads, h.new_, h.b_⟩
end
theorem own_empty_from (w : World) (W : Nat) (e : TypeId) (size : Nat) (hW : W ≤ w.heap.size) : (w.alloc (.cells #[] e)).ownsRow W e size (.slice (some ⟨w.heap.size, 0, none⟩) 0 0) 0 [] :=
  ⟨by simp, .inr ⟨w.heap.size, 0, #[], rfl, hW, heap_alloc_new w _, Nat.le_refl _, Nat.zero_le _, by simp, by simp⟩⟩
theorem slv_fresh (w : World) (cs : Array Value) (e : TypeId) : Slv (w.alloc (.cells cs e)) (some ⟨w.heap.size, 0, none⟩) cs.size cs.toList := by
  refine ⟨by simp, fun j hj => ⟨_, rfl, ?_⟩⟩
  rw [add_at, Nat.zero_add, cell_of_row _ _ j cs e (0, 0) (heap_alloc_new w _)]
  simp at hj
  simp [hj]
theorem Buf.zero (w : World) : Buf (w.alloc (.cells #[.slice none 0 0, .int .i64 0, .int .i8 0] 81)) w.heap.size none [] 0 0 0 :=
  ⟨Blk.new w _ _, Nat.le_refl _, Nat.le_refl _, by simp, by simp, by simp⟩
theorem Bw.zero (w : World) : Bw w.heap.size (w.alloc (.cells #[.slice none 0 0, .int .i64 0, .int .i8 0] 81)) w.heap.size [] none [] 0 0 0 := ⟨Buf.zero w, rfl, by simp, Nat.le_refl _⟩

/-- The loop of WriteStrings. -/
def WstRel (w : World) (b : Nat) (l : List UInt8) (ls : List (List UInt8)) (v i : Value) (wr : World) : Prop :=
  ∃ k g row len lr, k ≤ ls.length ∧ i = .int .i64 (k : Int) ∧ wr.ownsRow w.heap.size 3 1 v k (((ls.take k).map List.length).map iv) ∧ Bw w.heap.size wr b (l ++ (ls.take k).flatten) g row len 0 lr ∧ Fr [] w wr

theorem wst_round {w wr w2 w' : World} {b : Nat} {l : List UInt8} {ls : List (List UInt8)} {k : Nat} {x : List UInt8} {g g2 : Option Nat} {row row2 : List UInt8} {len len2 off2 : Nat} {lr : Int} {v v' : Value} {o : Obj} (hk : k < ls.length) (hx : ls[k]? = some x) (hB : Bw w.heap.size wr b (l ++ (ls.take k).flatten) g row len 0 lr) (hf : Fr [] w wr)
    (hw : Put wr w2 b g row len 0 x g2 row2 len2 off2) (ho : w2.ownsRow w.heap.size 3 1 v k (((ls.take k).map List.length).map iv)) (ho' : w'.ownsRow w.heap.size 3 1 v' (k + 1) (((ls.take k).map List.length).map iv ++ [.int .i64 (x.length : Int)])) (hg : (w2.alloc o).grownBy w' v.ownBlock) :
    WstRel w b l ls v' (.int .i64 ((k + 1 : Nat) : Int)) w' := by
  have hf2 := hB.fr_ hf rfl hw.fr (fun _ h => h)
  obtain rfl : off2 = 0 := (hw.zero rfl).2
  refine ⟨k + 1, g2, row2, len2, 0, by omega, rfl, ?_, ?_, Fr.app hf2 ho hg⟩
  · rw [take_next ls k x hx, List.map_append, List.map_append]
    exact ho'
  · have hB2 := hB.put hf.size hw
    rw [flat_next ls k x hx, ← List.append_assoc]
    exact hB2.app ho hg (by decide) (by decide)

set_option maxHeartbeats 800000 in
theorem impl_WriteStrings (l : List UInt8) (A : Option Addr) (n c : Nat) (ls : List (List UInt8)) (w : World) (hS : Slv w A n (ls.map sv)) (hN : l.length + (ls.map List.length).sum + n ≤ 2097152) :
    Calls Tryd.prog 10 #[.string ⟨l.toArray⟩, .slice A n c] w fun e w' => ∃ A' c' s, e = .returned (.tuple #[.slice A' n c', .string ⟨s.toArray⟩]) ∧ Slv w' A' n ((ls.map List.length).map iv) ∧ Hid (s = l ++ ls.flatten) ∧ Fr [] w w' := by
  have hn : n = ls.length := by have := hS.1; simpa using this
  have HN := Lib.hid hn
  clear hn
  go_enter Tryd.func10, Tryd.ntmps10
  go_wp2_with fail
  refine (NewBufferString _ _ (by omega)).mono ?_
  rintro e w1 ⟨b, g, pad, rfl, hB, hf, hb, hg⟩
  go_wp2_with fail
  go_loopw [7, 17] (fun v i wr => WstRel w b l ls v i wr) (fun _ i _ => n - (intOf i).toNat)
  case atStart =>
    refine ⟨0, _, _, _, _, Nat.zero_le _, rfl, own_empty_from w1 w.heap.size 3 1 hf.size, ⟨hB.alloc _, by rw [unread_pad]; simp, fun x e => by injection e with e; omega, hb⟩, hf.alloc _⟩
  case round =>
    obtain ⟨k, g, row, len, lr, hk, rfl, ho, hB, hf1⟩ := hrel
    obtain ⟨A', c', rfl⟩ := own_form ho
    by_cases hlt : k < n
    · obtain ⟨ad, x, rfl, hx, hc⟩ := (hS.fr_old hf1 (by simp)).text hlt
      have hsum := len_le_sum ls k x hx
      have HX := Lib.hid hx
      clear hx
      have hlen := hB.len_
      simp only [List.length_append, Nat.sub_zero] at hlen
      have hw := Buffer_WriteString wr hB.buf x (by omega)
      have hne := hB.own_ne ho (by decide) (by decide)
      have HB := Lib.hid hB
      clear hB hlen
      go_wp2_with fail
      refine hw.mono ?_
      rintro e w2 ⟨g2, row2, len2, off2, rfl, hw2⟩
      have ho2 := hw2.fr.own ho hne
      have hsz : w.heap.size ≤ w2.heap.size := Nat.le_trans hf1.size hw2.fr.size
      obtain ⟨v', w', hrun, ho', hg', hb'⟩ := run_app (P := Tryd.prog) (w2.alloc (.cells #[.int .i64 (x.length : Int)] 3)) w.heap.size 26 26 26 3 _ 1 8 Tryd.underlying26 infoI rfl (by decide) _ _ _ (ho2.alloc _) _ 1 _
        (src_one w2 (.int .i64 (x.length : Int)) 3 3 26 Tryd.underlying26 rfl 1) (by omega) (by omega) (by simp; omega)
      go_wp2_with (at_builtin; refine wpList_append_run rfl _ _ _ _ rfl rfl rfl hrun ?_)
      go_roundw
      case rel => exact wst_round (by have := HN.out; omega) HX.out HB.out hf1 hw2 ho2 ho' hg'
      case measure => simp [intOf]; omega
    · obtain rfl : k = n := by have := HN.out; omega
      have HB := Lib.hid hB
      have hst := Buffer_String wr hB.buf
      clear hB
      go_wp2_with fail
      refine hst.mono ?_
      rintro e w2 ⟨s, rfl, H2, k2, rfl⟩
      go_wp2_with fail
      go_ret2
      have hv := own_slv (own_drewN ho k2)
      rw [List.take_of_length_le (by have := HN.out; omega)] at hv
      refine ⟨_, _, _, rfl, hv, ?_, hf1.drewN _⟩
      show s = _
      rw [H2.out, HB.out.reads, List.take_of_length_le (by have := HN.out; omega)]

end Go.Proofs.YtgniidnbpkhmcaaDoor
