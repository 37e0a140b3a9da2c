/- Builders: written with strings, slices, single bytes. -/
import Derived.Test.YtnpaokglfkocnaaDoorNums
import Derived.Test.YtnpaokglfkocnaaDoorBldGrow
namespace Go.Proofs.YtnpaokglfkocnaaDoor
open Go.RowKit
set_option linter.unusedVariables false
attribute [local go_sem ↓] Go.wp_at_zero Go.wp_at_succ

theorem Bld.own_ne {w : World} {b : Nat} {g : Option Nat} {row : List UInt8} {len : Nat} {base : Nat} {e : TypeId} {size n : Nat} {v : Value} {xs : List Value} (hB : Bld w b g row len) (ho : w.ownsRow base e size v n xs) (he : e ≠ 83) (he5 : e ≠ 5) : ∀ y, v.ownBlock = some y → y ∉ b :: g.toList := by
  obtain ⟨p, hp, hB⟩ := hB
  intro y hy
  have hbb := own_ne_blk ho hB.blk he y hy
  intro hm
  rcases List.mem_cons.1 hm with h1 | h1
  · exact hbb h1
  · simp only [Option.mem_toList] at h1
    obtain ⟨lo, hi, hr, _⟩ := (hB.some_ y h1).2
    rcases ho.2 with ⟨rfl, _⟩ | ⟨g', cap, cur, rfl, _, hh, _⟩
    · simp [Value.ownBlock] at hy
    · simp [Value.ownBlock] at hy
      subst hy
      rw [hr] at hh
      injection hh with hh
      injection hh with _ ht
      exact he5 ht.symm
theorem slv_new2 (w : World) (cs : Array Value) (e : TypeId) : Slv (w.alloc (.cells cs e)) (some ⟨w.heap.size, 0, none⟩) cs.size cs.toList := by
  refine ⟨by simp, fun j hj => ⟨_, rfl, ?_⟩⟩
  rw [add_at, Nat.zero_add, cell_of_row _ _ j cs e (0, 0) (heap_alloc_new w _)]
  simp at hj
  simp [hj]
theorem own_empty_at (w : World) (W : Nat) (e : TypeId) (size : Nat) (hW : W ≤ w.heap.size) : (w.alloc (.cells #[] e)).ownsRow W e size (.slice (some ⟨w.heap.size, 0, none⟩) 0 0) 0 [] :=
  ⟨by simp, .inr ⟨w.heap.size, 0, #[], rfl, hW, heap_alloc_new w _, Nat.le_refl _, Nat.zero_le _, by simp, by simp⟩⟩
/-- A builder that the call has made, with what it holds. -/
structure Bs (W : Nat) (wr : World) (b : Nat) (s : List UInt8) (g : Option Nat) (row : List UInt8) (len : Nat) : Prop where
  bld : Bld wr b g row len
  reads : row.take len = s
  new_ : ∀ x, g = some x → W ≤ x
  b_ : W ≤ b
theorem Bs.len {W : Nat} {wr : World} {b : Nat} {s : List UInt8} {g : Option Nat} {row : List UInt8} {len : Nat} (h : Bs W wr b s g row len) : len = s.length := by
  have := h.bld.len_le
  rw [← h.reads]
  simp
  omega
theorem Bs.made (w : World) : Bs w.heap.size (w.alloc (.cells #[.pointer none, .slice none 0 0] 83)) w.heap.size [] none [] 0 := ⟨Bld.made w, rfl, by simp, Nat.le_refl _⟩
theorem Bs.wrote {W : Nat} {wr w2 : World} {b : Nat} {s l : List UInt8} {g g2 : Option Nat} {row row2 : List UInt8} {len len2 : Nat} (h : Bs W wr b s g row len) (hW : W ≤ wr.heap.size) (hw : Wrote wr w2 b g row len l g2 row2 len2) : Bs W w2 b (s ++ l) g2 row2 len2 :=
  ⟨hw.bld, by rw [hw.reads, h.reads], fun x e => by
    rcases hw.at_ x e with h1 | h1
    · exact h.new_ x h1
    · omega, h.b_⟩
theorem Bs.frs {W : Nat} {wr w2 : World} {b : Nat} {s l : List UInt8} {g g2 : Option Nat} {row row2 : List UInt8} {len len2 : Nat} (h : Bs W wr b s g row len) {S : List Nat} {w : World} (hf : Fr S w wr) (hW : w.heap.size = W) (hw : Wrote wr w2 b g row len l g2 row2 len2) : Fr S w w2 :=
  hf.trans_of hw.fr (fun i hi => by
    rcases List.mem_cons.1 hi with h1 | h1
    · have := h.b_; exact .inr (by omega)
    · simp only [Option.mem_toList] at h1; have := h.new_ i h1; exact .inr (by omega))

/-- The loop of BuildStrings. -/
def BstRel (w : World) (ls : List (List UInt8)) (v i : Value) (wr : World) : Prop :=
  ∃ k g row len, k ≤ ls.length ∧ i = .int .i64 (k : Int) ∧ wr.ownsRow w.heap.size 3 1 v k (((ls.take k).map List.length).map iv) ∧ Bs w.heap.size wr w.heap.size ((ls.take k).flatten) g row len ∧ Fr [] w wr

theorem bst_round {w wr w2 w' : World} {ls : List (List UInt8)} {k : Nat} {x : List UInt8} {g g2 : Option Nat} {row row2 : List UInt8} {len len2 : Nat} {v v' : Value} {o : Obj} (hk : k < ls.length) (hx : ls[k]? = some x) (hB : Bs w.heap.size wr w.heap.size ((ls.take k).flatten) g row len) (hf : Fr [] w wr)
    (hw : Wrote wr w2 w.heap.size g row len x g2 row2 len2) (ho : w2.ownsRow w.heap.size 3 1 v k (((ls.take k).map List.length).map iv)) (ho' : w'.ownsRow w.heap.size 3 1 v' (k + 1) (((ls.take k).map List.length).map iv ++ [.int .i64 (x.length : Int)])) (hg : (w2.alloc o).grownBy w' v.ownBlock) :
    BstRel w ls v' (.int .i64 ((k + 1 : Nat) : Int)) w' := by
  have hf2 := hB.frs hf rfl hw
  refine ⟨k + 1, g2, row2, len2, by omega, rfl, ?_, ?_, Fr.app hf2 ho hg⟩
  · rw [take_next ls k x hx, List.map_append, List.map_append]
    exact ho'
  · have hB2 := hB.wrote hf.size hw
    rw [flat_next ls k x hx]
    exact ⟨hB2.bld.app ho hg (by decide) (by decide), hB2.reads, hB2.new_, hB2.b_⟩

end Go.Proofs.YtnpaokglfkocnaaDoor
