/- Builders: reset, grown. -/
import Derived.Test.YtgniidnbpkhmcaaDoorLawR
import Derived.Test.YtgniidnbpkhmcaaDoorLawC
import Derived.Defers
import Derived.Recover
namespace Go.Proofs.YtgniidnbpkhmcaaDoor
open Go.RowKit
set_option linter.unusedVariables false
attribute [local go_sem ↓] Go.wp_at_zero Go.wp_at_succ
/-- Each text, and nothing behind it. -/
def twice (ls : List (List UInt8)) : List (List UInt8) := (ls.map fun x => [x, []]).flatten
theorem twice_length (ls : List (List UInt8)) : (twice ls).length = 2 * ls.length := by
  induction ls with
  | nil => rfl
  | cons x r ih => simp only [twice, List.map_cons, List.flatten_cons, List.length_append, List.length_cons, List.length_nil] at ih ⊢; omega
theorem twice_next (ls : List (List UInt8)) (k : Nat) (x : List UInt8) (h : ls[k]? = some x) : twice (ls.take (k + 1)) = twice (ls.take k) ++ [x] ++ [[]] := by
  rw [take_next ls k x h]
  simp [twice]

/-- The loop of RebuildStrings. -/
def RebRel (w : World) (ls : List (List UInt8)) (v i : Value) (wr : World) : Prop :=
  ∃ k g row len, k ≤ ls.length ∧ i = .int .i64 (k : Int) ∧ wr.ownsRow w.heap.size 9 1 v (2 * k) ((twice (ls.take k)).map sv) ∧ Bs w.heap.size wr w.heap.size [] g row len ∧ Fr [] w wr

theorem Fr.bs {W : Nat} {w wr w2 : World} {b : Nat} {s : List UInt8} {g : Option Nat} {row : List UInt8} {len : Nat} {S T : List Nat} (hB : Bs W wr b s g row len) (hf : Fr S w wr) (hW : w.heap.size = W) (hf2 : Fr T wr w2) (hT : ∀ i ∈ T, i ∈ b :: g.toList) : Fr S w w2 :=
  hf.trans_of hf2 (fun i hi => by
    rcases List.mem_cons.1 (hT i hi) with h1 | h1
    · have := hB.b_; exact .inr (by omega)
    · simp only [Option.mem_toList] at h1; have := hB.new_ i h1; exact .inr (by omega))

/-- The loop of the law. -/
def WantRel (w : World) (ls : List (List UInt8)) (v i : Value) (wr : World) : Prop :=
  ∃ k, k ≤ ls.length ∧ i = .int .i64 (k : Int) ∧ wr.ownsRow w.heap.size 9 1 v (2 * k) ((twice (ls.take k)).map sv) ∧ Fr [] w wr

/-- The loop of GrowAndBuild. -/
theorem impl_GrowAndBuild (l : List UInt8) (n : Nat) (x : UInt8) (w : World) (hN : l.length ≤ 2097152) (hn : n ≤ 65535) :
    Calls Tryd.prog 24 #[.string ⟨l.toArray⟩, .int .u16 (n : Int), .int .u8 (x.toNat : Int)] w fun e w' => ∃ (c : Nat) (s : List UInt8), e = .returned (.tuple #[.int .i64 (c : Int), .int .i64 (c : Int), .string ⟨s.toArray⟩]) ∧ l.length + n ≤ c ∧ Hid (s = l ++ List.replicate n x) ∧ Fr [] w w' := by
  have h1 := Lib.hid (Builder_WriteString _ (Bs.made w).bld l (by omega))
  go_enter Tryd.func24, Tryd.ntmps24
  go_wp2_with fail
  refine h1.out.mono ?_
  rintro e w1 ⟨g1, row1, len1, rfl, hw1⟩
  have hB1 := (Bs.made w).wrote (by simp) hw1
  have hf1 := (Bs.made w).frs ((Fr.refl [] w).alloc _) rfl hw1
  simp only [List.nil_append] at hB1
  have hl1 := hB1.len
  have h2 := Lib.hid (Builder_Grow w1 hB1.bld n (by omega))
  have HB1 := Lib.hid hB1
  clear hB1 hw1 hl1
  go_wp2_with fail
  refine h2.out.mono ?_
  rintro e w2 ⟨g2, row2, rfl, hB2, H2, hf2, hg2⟩
  have hB2s : Bs w.heap.size w2 w.heap.size l g2 row2 len1 := ⟨hB2, by rw [H2.out.1, HB1.out.reads], fun y e => by
    rcases hg2 y e with h3 | h3
    · exact HB1.out.new_ y h3
    · exact Nat.le_trans hf1.size h3, Nat.le_refl _⟩
  have hf12 := hf1.trans_of hf2 (by simp)
  have hcap : l.length + n ≤ row2.length := by have := H2.out.2; have := HB1.out.len; omega
  have h3 := Lib.hid (Builder_Cap w2 hB2)
  have HB2 := Lib.hid hB2s
  clear hB2 hB2s H2
  go_wp2_with fail
  refine h3.out.mono ?_
  rintro e w3 ⟨rfl, rfl⟩
  generalize hC : row2.length = C at *
  have HC := Lib.hid hC
  clear hC
  go_wp2_with fail
  go_loopw [19] (fun i wr => ∃ k g row len, k ≤ n ∧ i = .int .u16 (k : Int) ∧ Bs w.heap.size wr w.heap.size (l ++ List.replicate k x) g row len ∧ Hid (row.length = C) ∧ Fr [] w wr) (fun i _ => n - (intOf i).toNat)
  case atStart => exact ⟨0, _, _, _, Nat.zero_le _, rfl, by simpa using HB2.out, HC, hf12⟩
  case round =>
    obtain ⟨k, g, row, len, hk, rfl, hB, HR, hf⟩ := hrel
    by_cases hlt : k < n
    · have hlen := hB.len
      simp at hlen
      have hw := Builder_WriteByte wr hB.bld x (by omega)
      have HB := Lib.hid hB
      clear hB hlen
      go_wp2_with fail
      refine hw.mono ?_
      rintro e w4 ⟨g4, row4, len4, rfl, hw4⟩
      go_wp2_with fail
      go_roundw
      case rel =>
        refine ⟨k + 1, g4, row4, len4, by omega, by go_num, ?_, ?_, HB.out.frs hf rfl hw4⟩
        · have := HB.out.wrote hf.size hw4
          rw [List.append_assoc, ← List.replicate_succ'] at this
          exact this
        · show _ = _
          have h5 := HB.out.len
          have h6 := HR.out
          simp at h5
          rw [hw4.keeps (by simp; omega)]
          exact h6
      case measure => simp [intOf]; omega
    · obtain rfl : k = n := by omega
      have hc := Lib.hid (Builder_Cap wr hB.bld)
      have hst := Lib.hid (Builder_String wr hB.bld)
      have HB := Lib.hid hB
      clear hB
      go_wp2_with fail
      refine hc.out.mono ?_
      rintro e w4 ⟨rfl, rfl⟩
      go_wp2_with fail
      refine hst.out.mono ?_
      rintro e w5 ⟨s, rfl, H5, hB5, hf5⟩
      rw [HR.out]
      go_wp2_with fail
      go_ret3
      exact ⟨C, s, rfl, hcap, by show _ = _; rw [H5.out, HB.out.reads], Fr.bs HB.out hf rfl hf5 (fun i hi => List.mem_cons_of_mem _ hi)⟩

end Go.Proofs.YtgniidnbpkhmcaaDoor
