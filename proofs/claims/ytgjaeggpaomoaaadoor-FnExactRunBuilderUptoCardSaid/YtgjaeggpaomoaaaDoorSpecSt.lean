/- The reference's states: what a read, a write, an unread make of them. -/
import Derived.Test.YtgjaeggpaomoaaaDoorPlainR
import Derived.Test.YtgjaeggpaomoaaaDoorEnc
import Derived.Deep.RegionWith
import Derived.Deep.DrawnRows
namespace Go.Proofs.YtgjaeggpaomoaaaDoor
open Go.RowKit
set_option linter.unusedVariables false
attribute [local go_sem ↓] Go.wp_at_zero Go.wp_at_succ

/-- A state as a value, as cells. -/
def Sta.val (s : Sta) : Value := .agg #[.string ⟨s.text.toArray⟩, .int .i64 (s.recent : Int), .string ⟨s.last.toArray⟩, .bool s.begun]
/-- What holds of every state of a script. -/
structure StaOk (s : Sta) : Prop where
  recent : s.recent ≤ 6
  last : s.last.length ≤ 4
  whole : s.recent = 2 → 1 ≤ s.last.length

theorem State_written (s : Sta) (d : List UInt8) (w : World) (hl : s.text.length + d.length ≤ 9223372036854775807) :
    Calls Tryd.prog 66 #[s.val, .string ⟨d.toArray⟩] w fun e w' => e = .returned (s.wr d).val ∧ Fr [] w w' := by
  obtain ⟨text, recent, last, begun⟩ := s
  simp only at hl
  unfold Sta.val
  cases begun
  · go_enter Tryd.func66, Tryd.ntmps66
    go_wp2_with fail
    refine bodyPost_ret (v := (Sta.wr ⟨text, recent, last, false⟩ d).val) (by simp [results, Tryd.results66, go_sem, Sta.wr, Sta.val]) rfl ?_
    refine ⟨rfl, ?_⟩
    repeat' first | with_reducible exact Fr.refl _ _ | with_reducible refine Fr.alloc ?_ _ | with_reducible refine Fr.drew ?_ | refine Fr.setCell ?_ (.inr (by simp)) _
  · go_enter Tryd.func66, Tryd.ntmps66
    go_wp2_with fail
    refine bodyPost_ret (v := (Sta.wr ⟨text, recent, last, true⟩ d).val) (by simp [results, Tryd.results66, go_sem, Sta.wr, Sta.val]) rfl ?_
    refine ⟨rfl, ?_⟩
    repeat' first | with_reducible exact Fr.refl _ _ | with_reducible refine Fr.alloc ?_ _ | with_reducible refine Fr.drew ?_ | refine Fr.setCell ?_ (.inr (by simp)) _

theorem State_unread (s : Sta) (w : World) (hl : s.text.length + s.last.length ≤ 9223372036854775807) :
    Calls Tryd.prog 97 #[s.val] w fun e w' => e = .returned (s.oth (s.last ++ s.text)).val ∧ Fr [] w w' := by
  obtain ⟨text, recent, last, begun⟩ := s
  simp only at hl
  unfold Sta.val
  go_enter Tryd.func97, Tryd.ntmps97
  go_wp2_with fail
  refine bodyPost_ret (v := (Sta.oth ⟨text, recent, last, begun⟩ (last ++ text)).val) (by simp [results, Tryd.results97, go_sem, Sta.oth, Sta.val]) rfl ?_
  refine ⟨rfl, ?_⟩
  repeat' first | with_reducible exact Fr.refl _ _ | with_reducible refine Fr.alloc ?_ _ | with_reducible refine Fr.drew ?_ | refine Fr.setCell ?_ (.inr (by simp)) _

theorem State_read_zero (s : Sta) (k : Nat) (w : World) :
    Calls Tryd.prog 85 #[s.val, .int .i64 0, .int .i64 (k : Int)] w fun e w' => e = .returned (s.rd 0 k).val ∧ Fr [] w w' := by
  obtain ⟨text, recent, last, begun⟩ := s
  unfold Sta.val
  go_enter Tryd.func85, Tryd.ntmps85
  go_wp2_with fail
  refine bodyPost_ret (v := (Sta.rd ⟨text, recent, last, begun⟩ 0 k).val) (by simp [results, Tryd.results85, go_sem, Sta.rd, Sta.val]) rfl ?_
  refine ⟨rfl, ?_⟩
  repeat' first | with_reducible exact Fr.refl _ _ | with_reducible refine Fr.alloc ?_ _ | with_reducible refine Fr.drew ?_ | refine Fr.setCell ?_ (.inr (by simp)) _
theorem State_read_one (s : Sta) (q : Nat) (w : World) (hn : q + 1 ≤ s.text.length) (hl : s.text.length ≤ 9223372036854775807) :
    Calls Tryd.prog 85 #[s.val, .int .i64 ((q + 1 : Nat) : Int), .int .i64 1] w fun e w' => e = .returned (s.rd (q + 1) 1).val ∧ Fr [] w w' := by
  obtain ⟨text, recent, last, begun⟩ := s
  simp only at hn hl
  unfold Sta.val
  rw [Int.natCast_add, Int.natCast_one]
  have hb : (((q : Int) + 1) == 0) = false := by simp; omega
  go_enter Tryd.func85, Tryd.ntmps85
  go_wp2_with fail
  refine bodyPost_ret (v := (Sta.rd ⟨text, recent, last, begun⟩ (q + 1) 1).val) (by simp [results, Tryd.results85, go_sem, Sta.rd, Sta.val]) rfl ?_
  refine ⟨rfl, ?_⟩
  repeat' first | with_reducible exact Fr.refl _ _ | with_reducible refine Fr.alloc ?_ _ | with_reducible refine Fr.drew ?_ | refine Fr.setCell ?_ (.inr (by simp)) _
theorem State_read_two (s : Sta) (q : Nat) (w : World) (hn : q + 1 ≤ s.text.length) (hl : s.text.length ≤ 9223372036854775807) :
    Calls Tryd.prog 85 #[s.val, .int .i64 ((q + 1 : Nat) : Int), .int .i64 2] w fun e w' => e = .returned (s.rd (q + 1) 2).val ∧ Fr [] w w' := by
  obtain ⟨text, recent, last, begun⟩ := s
  simp only at hn hl
  unfold Sta.val
  rw [Int.natCast_add, Int.natCast_one]
  have hb : (((q : Int) + 1) == 0) = false := by simp; omega
  go_enter Tryd.func85, Tryd.ntmps85
  go_wp2_with fail
  refine bodyPost_ret (v := (Sta.rd ⟨text, recent, last, begun⟩ (q + 1) 2).val) (by simp [results, Tryd.results85, go_sem, Sta.rd, Sta.val]) rfl ?_
  refine ⟨rfl, ?_⟩
  repeat' first | with_reducible exact Fr.refl _ _ | with_reducible refine Fr.alloc ?_ _ | with_reducible refine Fr.drew ?_ | refine Fr.setCell ?_ (.inr (by simp)) _
theorem State_read1 (s : Sta) (n : Nat) (w : World) (hn : n ≤ s.text.length) (hl : s.text.length ≤ 9223372036854775807) :
    Calls Tryd.prog 85 #[s.val, .int .i64 (n : Int), .int .i64 1] w fun e w' => e = .returned (s.rd n 1).val ∧ Fr [] w w' := by
  cases n with
  | zero => exact State_read_zero s 1 w
  | succ q => exact State_read_one s q w hn hl
theorem State_read2 (s : Sta) (n : Nat) (w : World) (hn : n ≤ s.text.length) (hl : s.text.length ≤ 9223372036854775807) :
    Calls Tryd.prog 85 #[s.val, .int .i64 (n : Int), .int .i64 2] w fun e w' => e = .returned (s.rd n 2).val ∧ Fr [] w w' := by
  cases n with
  | zero => exact State_read_zero s 2 w
  | succ q => exact State_read_two s q w hn hl

end Go.Proofs.YtgjaeggpaomoaaaDoor
