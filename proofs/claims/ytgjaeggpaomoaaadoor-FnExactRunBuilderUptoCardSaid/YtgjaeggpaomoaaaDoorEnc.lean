/- The reference's encodings of code points. -/
import Derived.Test.YtgjaeggpaomoaaaDoorNums
import Derived.Lib.RuneBytes
namespace Go.Proofs.YtgjaeggpaomoaaaDoor
open Go.RowKit
set_option linter.unusedVariables false
attribute [local go_sem ↓] Go.wp_at_zero Go.wp_at_succ

/-- A number that UTF-8 encodes. -/
def validB (r : Int) : Bool := decide ((0 ≤ r ∧ r < 55296) ∨ (57343 < r ∧ r ≤ 1114111))
def encs (zs : List Int) : List (List UInt8) := zs.map Lib.encodeRune
theorem enc_len (r : Int) : 1 ≤ (Lib.encodeRune r).length ∧ (Lib.encodeRune r).length ≤ 4 := by
  have := Lib.runeCells_le r
  rw [Lib.runeCells_length] at this
  exact this
theorem encs_le (zs : List Int) : ((encs zs).map List.length).sum ≤ 4 * zs.length := by
  induction zs with
  | nil => simp [encs]
  | cons z r ih =>
    have := (enc_len z).2
    simp only [encs, List.map_cons, List.sum_cons, List.length_cons] at ih ⊢
    omega

theorem spec_Valid (r : Int) (w : World) (hr0 : -2147483648 ≤ r) (hr1 : r ≤ 2147483647) :
    Calls Tryd.prog 67 #[.int .i32 r] w fun e w' => e = .returned (.bool (validB r)) ∧ w = w' := by
  by_cases c1 : r < 0
  · have : validB r = false := by simp [validB]; omega
    rw [this]
    have h1 : decide ((57343 : Int) < r) = false := by simp; omega
    go_enter Tryd.func67, Tryd.ntmps67
    go_wp2_with fail
    go_ret
    exact ⟨rfl, rfl⟩
  by_cases c2 : r < 55296
  · have : validB r = true := by simp [validB]; omega
    rw [this]
    go_enter Tryd.func67, Tryd.ntmps67
    go_wp2_with fail
    go_ret
    exact ⟨rfl, rfl⟩
  by_cases c3 : r ≤ 57343
  · have : validB r = false := by simp [validB]; omega
    rw [this]
    have h1 : decide ((57343 : Int) < r) = false := by simp; omega
    go_enter Tryd.func67, Tryd.ntmps67
    go_wp2_with fail
    go_ret
    exact ⟨rfl, rfl⟩
  · have h1 : decide ((57343 : Int) < r) = true := by simp; omega
    by_cases c4 : r ≤ 1114111
    · have : validB r = true := by simp [validB]; omega
      rw [this]
      go_enter Tryd.func67, Tryd.ntmps67
      go_wp2_with fail
      go_ret
      exact ⟨rfl, rfl⟩
    · have : validB r = false := by simp [validB]; omega
      rw [this]
      have h2 : decide (r ≤ 1114111) = false := by simp; omega
      go_enter Tryd.func67, Tryd.ntmps67
      go_wp2_with fail
      go_ret
      exact ⟨rfl, rfl⟩

/-- Bytes by numbers in a new row, as a string. -/
theorem str_new (w : World) (xs : List Int) (l : List UInt8) (h : xs.map (fun x => Value.int .u8 x) = l.map bv) (hn : xs.length = l.length) :
    (convert 22 9 (.slice (some ⟨w.heap.size, 0, none⟩) l.length l.length)).run Tryd.prog (w.alloc (.cells (xs.map fun x => Value.int .u8 x).toArray 5)) = .ok (.string ⟨l.toArray⟩) (w.alloc (.cells (xs.map fun x => Value.int .u8 x).toArray 5)) := by
  refine run_string_sl (P := Tryd.prog) (w := w.alloc (.cells (xs.map fun x => Value.int .u8 x).toArray 5)) ⟨rfl, ?_⟩ 22 9 5 l.length Tryd.underlying22 Tryd.underlying5 Tryd.underlying9
  rw [h]
  intro j hj
  refine ⟨_, rfl, ?_⟩
  rw [add_at, Nat.zero_add, cell_of_row _ _ j _ 5 (0, 0) (heap_alloc_new w _)]
  simp [hj]
theorem str_rune (w : World) (r : Int) : (convert 22 9 (.slice (some ⟨w.heap.size, 0, none⟩) (Lib.encodeRune r).length (Lib.encodeRune r).length)).run Tryd.prog (w.alloc (.cells (Lib.runeCells r).toArray 5)) = .ok (.string ⟨(Lib.encodeRune r).toArray⟩) (w.alloc (.cells (Lib.runeCells r).toArray 5)) :=
  str_new w (Lib.encodeRuneZ r) (Lib.encodeRune r) (Lib.byteCells_encodeRune r).symm (by simp [Lib.encodeRune])

set_option maxHeartbeats 1600000 in
set_option maxRecDepth 100000 in
theorem Encode_one (w : World) (r : Int) (h0 : 0 ≤ r) (h1 : r ≤ 127) :
    Calls Tryd.prog 68 #[.int .i32 r] w fun e w' => ∃ s, e = .returned (.string ⟨s.toArray⟩) ∧ Hid (s = Lib.encodeRune r) ∧ Fr [] w w' := by
  have hst : (convert 22 9 (.slice (some ⟨w.heap.size, 0, none⟩) 1 1)).run Tryd.prog (w.alloc (.cells #[.int .u8 r] 5)) = .ok (.string ⟨(Lib.encodeRune r).toArray⟩) (w.alloc (.cells #[.int .u8 r] 5)) := by
    have := str_rune w r
    rw [← Lib.runeCells_length, Lib.runeCells, Lib.encodeRuneZ_one h0 h1] at this
    exact this
  generalize hs : Lib.encodeRune r = s at *
  clear hs
  go_enter Tryd.func68, Tryd.ntmps68
  go_wp2_with fail
  go_ret
  exact ⟨s, rfl, rfl, (Fr.refl [] w).alloc _⟩

set_option maxHeartbeats 1600000 in
set_option maxRecDepth 100000 in
theorem Encode_two (w : World) (r : Int) (h0 : 128 ≤ r) (h1 : r ≤ 2047) :
    Calls Tryd.prog 68 #[.int .i32 r] w fun e w' => ∃ s, e = .returned (.string ⟨s.toArray⟩) ∧ Hid (s = Lib.encodeRune r) ∧ Fr [] w w' := by
  have hst : (convert 22 9 (.slice (some ⟨w.heap.size, 0, none⟩) 2 2)).run Tryd.prog (w.alloc (.cells #[.int .u8 (192 + r / 64), .int .u8 (128 + r % 64)] 5)) = .ok (.string ⟨(Lib.encodeRune r).toArray⟩) (w.alloc (.cells #[.int .u8 (192 + r / 64), .int .u8 (128 + r % 64)] 5)) := by
    have := str_rune w r
    rw [← Lib.runeCells_length, Lib.runeCells, Lib.encodeRuneZ_two h0 h1] at this
    exact this
  generalize hs : Lib.encodeRune r = s at *
  clear hs
  go_enter Tryd.func68, Tryd.ntmps68
  go_wp2_with fail
  go_ret
  exact ⟨s, rfl, rfl, (Fr.refl [] w).alloc _⟩

set_option maxHeartbeats 1600000 in
set_option maxRecDepth 100000 in
theorem Encode_three_lo (w : World) (r : Int) (h0 : 2048 ≤ r) (h1 : r < 55296) :
    Calls Tryd.prog 68 #[.int .i32 r] w fun e w' => ∃ s, e = .returned (.string ⟨s.toArray⟩) ∧ Hid (s = Lib.encodeRune r) ∧ Fr [] w w' := by
  have hst : (convert 22 9 (.slice (some ⟨w.heap.size, 0, none⟩) 3 3)).run Tryd.prog (w.alloc (.cells #[.int .u8 (224 + r / 4096), .int .u8 (128 + r / 64 % 64), .int .u8 (128 + r % 64)] 5)) = .ok (.string ⟨(Lib.encodeRune r).toArray⟩) (w.alloc (.cells #[.int .u8 (224 + r / 4096), .int .u8 (128 + r / 64 % 64), .int .u8 (128 + r % 64)] 5)) := by
    have := str_rune w r
    rw [← Lib.runeCells_length, Lib.runeCells, Lib.encodeRuneZ_three (.inl ⟨h0, h1⟩)] at this
    exact this
  generalize hs : Lib.encodeRune r = s at *
  clear hs
  go_enter Tryd.func68, Tryd.ntmps68
  go_wp2_with fail
  go_ret
  exact ⟨s, rfl, rfl, (Fr.refl [] w).alloc _⟩

set_option maxHeartbeats 1600000 in
set_option maxRecDepth 100000 in
theorem Encode_three_hi (w : World) (r : Int) (h0 : 57343 < r) (h1 : r ≤ 65535) :
    Calls Tryd.prog 68 #[.int .i32 r] w fun e w' => ∃ s, e = .returned (.string ⟨s.toArray⟩) ∧ Hid (s = Lib.encodeRune r) ∧ Fr [] w w' := by
  have hst : (convert 22 9 (.slice (some ⟨w.heap.size, 0, none⟩) 3 3)).run Tryd.prog (w.alloc (.cells #[.int .u8 (224 + r / 4096), .int .u8 (128 + r / 64 % 64), .int .u8 (128 + r % 64)] 5)) = .ok (.string ⟨(Lib.encodeRune r).toArray⟩) (w.alloc (.cells #[.int .u8 (224 + r / 4096), .int .u8 (128 + r / 64 % 64), .int .u8 (128 + r % 64)] 5)) := by
    have := str_rune w r
    rw [← Lib.runeCells_length, Lib.runeCells, Lib.encodeRuneZ_three (.inr ⟨h0, h1⟩)] at this
    exact this
  generalize hs : Lib.encodeRune r = s at *
  clear hs
  go_enter Tryd.func68, Tryd.ntmps68
  go_wp2_with fail
  go_ret
  exact ⟨s, rfl, rfl, (Fr.refl [] w).alloc _⟩

set_option maxHeartbeats 1600000 in
set_option maxRecDepth 100000 in
theorem Encode_four (w : World) (r : Int) (h0 : 65536 ≤ r) (h1 : r ≤ 1114111) :
    Calls Tryd.prog 68 #[.int .i32 r] w fun e w' => ∃ s, e = .returned (.string ⟨s.toArray⟩) ∧ Hid (s = Lib.encodeRune r) ∧ Fr [] w w' := by
  have hst : (convert 22 9 (.slice (some ⟨w.heap.size, 0, none⟩) 4 4)).run Tryd.prog (w.alloc (.cells #[.int .u8 (240 + r / 262144), .int .u8 (128 + r / 4096 % 64), .int .u8 (128 + r / 64 % 64), .int .u8 (128 + r % 64)] 5)) = .ok (.string ⟨(Lib.encodeRune r).toArray⟩) (w.alloc (.cells #[.int .u8 (240 + r / 262144), .int .u8 (128 + r / 4096 % 64), .int .u8 (128 + r / 64 % 64), .int .u8 (128 + r % 64)] 5)) := by
    have := str_rune w r
    rw [← Lib.runeCells_length, Lib.runeCells, Lib.encodeRuneZ_four h0 h1] at this
    exact this
  generalize hs : Lib.encodeRune r = s at *
  clear hs
  go_enter Tryd.func68, Tryd.ntmps68
  go_wp2_with fail
  go_ret
  exact ⟨s, rfl, rfl, (Fr.refl [] w).alloc _⟩

theorem spec_Encode (w : World) (r : Int) (hv : validB r = true) :
    Calls Tryd.prog 68 #[.int .i32 r] w fun e w' => ∃ s, e = .returned (.string ⟨s.toArray⟩) ∧ Hid (s = Lib.encodeRune r) ∧ Fr [] w w' := by
  have hv' := of_decide_eq_true hv
  by_cases c1 : r ≤ 127
  · exact Encode_one w r (by omega) c1
  by_cases c2 : r ≤ 2047
  · exact Encode_two w r (by omega) c2
  by_cases c3 : r < 55296
  · exact Encode_three_lo w r (by omega) c3
  by_cases c5 : r ≤ 65535
  · exact Encode_three_hi w r (by omega) c5
  · exact Encode_four w r (by omega) (by omega)

/-- What AllValid returns. -/
def AvPost (zs : List Int) (w : World) (e : Ending) (w' : World) : Prop := ∃ b : Bool, e = .returned (.bool b) ∧ Hid (b = true → ∀ z ∈ zs, validB z = true) ∧ w = w'

/-- The loop of Encodings. -/
def EncRel (w : World) (zs : List Int) (v s i : Value) (wr : World) : Prop :=
  ∃ (k : Nat) (t : List UInt8), k ≤ zs.length ∧ i = .int .i64 (k : Int) ∧ s = .string ⟨t.toArray⟩ ∧ Hid (t = ((encs zs).take k).flatten) ∧ wr.ownsRow w.heap.size 3 1 v k ((((encs zs).take k).map List.length).map iv) ∧ Fr [] w wr

end Go.Proofs.YtgjaeggpaomoaaaDoor
