/- The reference's encodings of code points. -/
import Derived.Test.YtgniidnbpkhmcaaDoorNums
import Derived.Lib.RuneBytes
namespace Go.Proofs.YtgniidnbpkhmcaaDoor
open Go.RowKit
set_option linter.unusedVariables false
attribute [local go_sem ↓] Go.wp_at_zero Go.wp_at_succ

/-- A number that UTF-8 encodes. -/
def validB (r : Int) : Bool := decide ((0 ≤ r ∧ r < 55296) ∨ (57343 < r ∧ r ≤ 1114111))
def encs (zs : List Int) : List (List UInt8) := zs.map Lib.encodeRune
theorem enc_len (r : Int) : 1 ≤ (Lib.encodeRune r).length ∧ (Lib.encodeRune r).length ≤ 4 := by
  have := Lib.runeCells_le r
  rw [Lib.runeCells_length] at this
  exact this
theorem encs_le (zs : List Int) : ((encs zs).map List.length).sum ≤ 4 * zs.length := by
  induction zs with
  | nil => simp [encs]
  | cons z r ih =>
    have := (enc_len z).2
    simp only [encs, List.map_cons, List.sum_cons, List.length_cons] at ih ⊢
    omega

theorem spec_Valid (r : Int) (w : World) (hr0 : -2147483648 ≤ r) (hr1 : r ≤ 2147483647) :
    Calls Tryd.prog 65 #[.int .i32 r] w fun e w' => e = .returned (.bool (validB r)) ∧ w = w' := by
  by_cases c1 : r < 0
  · have : validB r = false := by simp [validB]; omega
    rw [this]
    have h1 : decide ((57343 : Int) < r) = false := by simp; omega
    go_enter Tryd.func65, Tryd.ntmps65
    go_wp2_with fail
    go_ret
    exact ⟨rfl, rfl⟩
  by_cases c2 : r < 55296
  · have : validB r = true := by simp [validB]; omega
    rw [this]
    go_enter Tryd.func65, Tryd.ntmps65
    go_wp2_with fail
    go_ret
    exact ⟨rfl, rfl⟩
  by_cases c3 : r ≤ 57343
  · have : validB r = false := by simp [validB]; omega
    rw [this]
    have h1 : decide ((57343 : Int) < r) = false := by simp; omega
    go_enter Tryd.func65, Tryd.ntmps65
    go_wp2_with fail
    go_ret
    exact ⟨rfl, rfl⟩
  · have h1 : decide ((57343 : Int) < r) = true := by simp; omega
    by_cases c4 : r ≤ 1114111
    · have : validB r = true := by simp [validB]; omega
      rw [this]
      go_enter Tryd.func65, Tryd.ntmps65
      go_wp2_with fail
      go_ret
      exact ⟨rfl, rfl⟩
    · have : validB r = false := by simp [validB]; omega
      rw [this]
      have h2 : decide (r ≤ 1114111) = false := by simp; omega
      go_enter Tryd.func65, Tryd.ntmps65
      go_wp2_with fail
      go_ret
      exact ⟨rfl, rfl⟩

/-- Bytes by numbers in a new row, as a string. -/
theorem str_new (w : World) (xs : List Int) (l : List UInt8) (h : xs.map (fun x => Value.int .u8 x) = l.map bv) (hn : xs.length = l.length) :
    (convert 22 9 (.slice (some ⟨w.heap.size, 0, none⟩) l.length l.length)).run Tryd.prog (w.alloc (.cells (xs.map fun x => Value.int .u8 x).toArray 5)) = .ok (.string ⟨l.toArray⟩) (w.alloc (.cells (xs.map fun x => Value.int .u8 x).toArray 5)) := by
  refine run_string_sl (P := Tryd.prog) (w := w.alloc (.cells (xs.map fun x => Value.int .u8 x).toArray 5)) ⟨rfl, ?_⟩ 22 9 5 l.length Tryd.underlying22 Tryd.underlying5 Tryd.underlying9
  rw [h]
  intro j hj
  refine ⟨_, rfl, ?_⟩
  rw [add_at, Nat.zero_add, cell_of_row _ _ j _ 5 (0, 0) (heap_alloc_new w _)]
  simp [hj]
theorem str_rune (w : World) (r : Int) : (convert 22 9 (.slice (some ⟨w.heap.size, 0, none⟩) (Lib.encodeRune r).length (Lib.encodeRune r).length)).run Tryd.prog (w.alloc (.cells (Lib.runeCells r).toArray 5)) = .ok (.string ⟨(Lib.encodeRune r).toArray⟩) (w.alloc (.cells (Lib.runeCells r).toArray 5)) :=
  str_new w (Lib.encodeRuneZ r) (Lib.encodeRune r) (Lib.byteCells_encodeRune r).symm (by simp [Lib.encodeRune])

/-- What AllValid returns. -/
def AvPost (zs : List Int) (w : World) (e : Ending) (w' : World) : Prop := ∃ b : Bool, e = .returned (.bool b) ∧ Hid (b = true → ∀ z ∈ zs, validB z = true) ∧ w = w'

/-- The loop of Encodings. -/
def EncRel (w : World) (zs : List Int) (v s i : Value) (wr : World) : Prop :=
  ∃ (k : Nat) (t : List UInt8), k ≤ zs.length ∧ i = .int .i64 (k : Int) ∧ s = .string ⟨t.toArray⟩ ∧ Hid (t = ((encs zs).take k).flatten) ∧ wr.ownsRow w.heap.size 3 1 v k ((((encs zs).take k).map List.length).map iv) ∧ Fr [] w wr

end Go.Proofs.YtgniidnbpkhmcaaDoor
