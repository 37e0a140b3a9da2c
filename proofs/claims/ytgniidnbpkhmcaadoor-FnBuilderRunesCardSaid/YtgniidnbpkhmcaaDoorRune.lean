/- unicode/utf8.AppendRune onto a slice of bytes, over an append whose run is given. -/
import Derived.Test.YtgniidnbpkhmcaaDoorBuf
import Derived.Lib.RuneBytes
import Derived.Laws.BitsLemmas
import Derived.Laws.BitsAllLaws
namespace Go.Proofs.YtgniidnbpkhmcaaDoor
open Go.RowKit
set_option linter.unusedVariables false

/-- The append of a code point's bytes, laid in a block of their own. -/
def RuneRun (w : World) (A : Option Addr) (n c : Nat) (r : Int) (v' : Value) (w' : World) : Prop :=
  (Builtin.append_ #[22, 22] 22 #[.slice A n c, .slice (some ⟨w.heap.size, 0, none⟩) (Lib.runeCells r).length (Lib.runeCells r).length]).run Tryd.prog (w.alloc (.cells (Lib.runeCells r).toArray 5)) = .ok v' w'

set_option maxHeartbeats 4000000 in
set_option maxRecDepth 100000 in
theorem appendRune_two (w : World) (A : Option Addr) (n c : Nat) (r : Int) (A' : Option Addr) (n' c' : Nat) (w' : World) (h0 : 128 ≤ r) (h1 : r ≤ 2047) (hr : RuneRun w A n c r (.slice A' n' c') w') :
    Calls Tryd.prog 66 #[.slice A n c, .int .i32 r] w fun e w'' => e = .returned (.slice A' n' c') ∧ w' = w'' := by
  have hrun : (Builtin.append_ #[22, 22] 22 #[.slice A n c, .slice (some ⟨w.heap.size, 0, none⟩) 2 2]).run Tryd.prog (w.alloc (.cells #[.int .u8 (192 + r / 64), .int .u8 (128 + r % 64)] 5)) = .ok (.slice A' n' c') w' := by
    have := hr
    unfold RuneRun at this
    rw [Lib.runeCells, Lib.encodeRuneZ_two h0 h1] at this
    exact this
  clear hr
  go_enter Tryd.func66, Tryd.ntmps66
  go_wp2_with (at_builtin; refine wpList_append_run rfl _ _ _ _ rfl rfl rfl hrun ?_)
  go_ret
  exact ⟨rfl, rfl⟩

set_option maxHeartbeats 4000000 in
set_option maxRecDepth 100000 in
theorem appendRune_three_lo (w : World) (A : Option Addr) (n c : Nat) (r : Int) (A' : Option Addr) (n' c' : Nat) (w' : World) (h0 : 2048 ≤ r) (h1 : r < 55296) (hr : RuneRun w A n c r (.slice A' n' c') w') :
    Calls Tryd.prog 66 #[.slice A n c, .int .i32 r] w fun e w'' => e = .returned (.slice A' n' c') ∧ w' = w'' := by
  have hrun : (Builtin.append_ #[22, 22] 22 #[.slice A n c, .slice (some ⟨w.heap.size, 0, none⟩) 3 3]).run Tryd.prog (w.alloc (.cells #[.int .u8 (224 + r / 4096), .int .u8 (128 + r / 64 % 64), .int .u8 (128 + r % 64)] 5)) = .ok (.slice A' n' c') w' := by
    have := hr
    unfold RuneRun at this
    rw [Lib.runeCells, Lib.encodeRuneZ_three (.inl ⟨h0, h1⟩)] at this
    exact this
  clear hr
  go_enter Tryd.func66, Tryd.ntmps66
  go_wp2_with (at_builtin; refine wpList_append_run rfl _ _ _ _ rfl rfl rfl hrun ?_)
  go_ret
  exact ⟨rfl, rfl⟩

set_option maxHeartbeats 4000000 in
set_option maxRecDepth 100000 in
theorem appendRune_three_hi (w : World) (A : Option Addr) (n c : Nat) (r : Int) (A' : Option Addr) (n' c' : Nat) (w' : World) (h0 : 57343 < r) (h1 : r ≤ 65535) (hr : RuneRun w A n c r (.slice A' n' c') w') :
    Calls Tryd.prog 66 #[.slice A n c, .int .i32 r] w fun e w'' => e = .returned (.slice A' n' c') ∧ w' = w'' := by
  have hrun : (Builtin.append_ #[22, 22] 22 #[.slice A n c, .slice (some ⟨w.heap.size, 0, none⟩) 3 3]).run Tryd.prog (w.alloc (.cells #[.int .u8 (224 + r / 4096), .int .u8 (128 + r / 64 % 64), .int .u8 (128 + r % 64)] 5)) = .ok (.slice A' n' c') w' := by
    have := hr
    unfold RuneRun at this
    rw [Lib.runeCells, Lib.encodeRuneZ_three (.inr ⟨h0, h1⟩)] at this
    exact this
  clear hr
  go_enter Tryd.func66, Tryd.ntmps66
  go_wp2_with (at_builtin; refine wpList_append_run rfl _ _ _ _ rfl rfl rfl hrun ?_)
  go_ret
  exact ⟨rfl, rfl⟩

set_option maxHeartbeats 4000000 in
set_option maxRecDepth 100000 in
theorem appendRune_four (w : World) (A : Option Addr) (n c : Nat) (r : Int) (A' : Option Addr) (n' c' : Nat) (w' : World) (h0 : 65536 ≤ r) (h1 : r ≤ 1114111) (hr : RuneRun w A n c r (.slice A' n' c') w') :
    Calls Tryd.prog 66 #[.slice A n c, .int .i32 r] w fun e w'' => e = .returned (.slice A' n' c') ∧ w' = w'' := by
  have hrun : (Builtin.append_ #[22, 22] 22 #[.slice A n c, .slice (some ⟨w.heap.size, 0, none⟩) 4 4]).run Tryd.prog (w.alloc (.cells #[.int .u8 (240 + r / 262144), .int .u8 (128 + r / 4096 % 64), .int .u8 (128 + r / 64 % 64), .int .u8 (128 + r % 64)] 5)) = .ok (.slice A' n' c') w' := by
    have := hr
    unfold RuneRun at this
    rw [Lib.runeCells, Lib.encodeRuneZ_four h0 h1] at this
    exact this
  clear hr
  go_enter Tryd.func66, Tryd.ntmps66
  go_wp2_with (at_builtin; refine wpList_append_run rfl _ _ _ _ rfl rfl rfl hrun ?_)
  go_ret
  exact ⟨rfl, rfl⟩

set_option maxHeartbeats 4000000 in
set_option maxRecDepth 100000 in
theorem appendRune_bad_neg (w : World) (A : Option Addr) (n c : Nat) (r : Int) (A' : Option Addr) (n' c' : Nat) (w' : World) (h0 : -2147483648 ≤ r) (h1 : r < 0) (hr : RuneRun w A n c r (.slice A' n' c') w') :
    Calls Tryd.prog 66 #[.slice A n c, .int .i32 r] w fun e w'' => e = .returned (.slice A' n' c') ∧ w' = w'' := by
  have hrun : (Builtin.append_ #[22, 22] 22 #[.slice A n c, .slice (some ⟨w.heap.size, 0, none⟩) 3 3]).run Tryd.prog (w.alloc (.cells #[.int .u8 239, .int .u8 191, .int .u8 189] 5)) = .ok (.slice A' n' c') w' := by
    have := hr
    unfold RuneRun at this
    rw [Lib.runeCells, Lib.encodeRuneZ_bad (.inl h1)] at this
    exact this
  clear hr
  go_enter Tryd.func66, Tryd.ntmps66
  go_wp2_with (at_builtin; refine wpList_append_run rfl _ _ _ _ rfl rfl rfl hrun ?_)
  go_ret
  exact ⟨rfl, rfl⟩

set_option maxHeartbeats 4000000 in
set_option maxRecDepth 100000 in
theorem appendRune_bad_sur (w : World) (A : Option Addr) (n c : Nat) (r : Int) (A' : Option Addr) (n' c' : Nat) (w' : World) (h0 : 55296 ≤ r) (h1 : r ≤ 57343) (hr : RuneRun w A n c r (.slice A' n' c') w') :
    Calls Tryd.prog 66 #[.slice A n c, .int .i32 r] w fun e w'' => e = .returned (.slice A' n' c') ∧ w' = w'' := by
  have hrun : (Builtin.append_ #[22, 22] 22 #[.slice A n c, .slice (some ⟨w.heap.size, 0, none⟩) 3 3]).run Tryd.prog (w.alloc (.cells #[.int .u8 239, .int .u8 191, .int .u8 189] 5)) = .ok (.slice A' n' c') w' := by
    have := hr
    unfold RuneRun at this
    rw [Lib.runeCells, Lib.encodeRuneZ_bad (.inr (.inl ⟨h0, h1⟩))] at this
    exact this
  clear hr
  go_enter Tryd.func66, Tryd.ntmps66
  go_wp2_with (at_builtin; refine wpList_append_run rfl _ _ _ _ rfl rfl rfl hrun ?_)
  go_ret
  exact ⟨rfl, rfl⟩

set_option maxHeartbeats 4000000 in
set_option maxRecDepth 100000 in
theorem appendRune_bad_big (w : World) (A : Option Addr) (n c : Nat) (r : Int) (A' : Option Addr) (n' c' : Nat) (w' : World) (h0 : 1114111 < r) (h1 : r ≤ 2147483647) (hr : RuneRun w A n c r (.slice A' n' c') w') :
    Calls Tryd.prog 66 #[.slice A n c, .int .i32 r] w fun e w'' => e = .returned (.slice A' n' c') ∧ w' = w'' := by
  have hrun : (Builtin.append_ #[22, 22] 22 #[.slice A n c, .slice (some ⟨w.heap.size, 0, none⟩) 3 3]).run Tryd.prog (w.alloc (.cells #[.int .u8 239, .int .u8 191, .int .u8 189] 5)) = .ok (.slice A' n' c') w' := by
    have := hr
    unfold RuneRun at this
    rw [Lib.runeCells, Lib.encodeRuneZ_bad (.inr (.inr h0))] at this
    exact this
  clear hr
  go_enter Tryd.func66, Tryd.ntmps66
  go_wp2_with (at_builtin; refine wpList_append_run rfl _ _ _ _ rfl rfl rfl hrun ?_)
  go_ret
  exact ⟨rfl, rfl⟩

theorem utf8_appendRuneNonASCII (w : World) (A : Option Addr) (n c : Nat) (r : Int) (A' : Option Addr) (n' c' : Nat) (w' : World) (hr0 : -2147483648 ≤ r) (hr1 : r ≤ 2147483647) (hna : r < 0 ∨ 128 ≤ r) (hr : RuneRun w A n c r (.slice A' n' c') w') :
    Calls Tryd.prog 66 #[.slice A n c, .int .i32 r] w fun e w'' => e = .returned (.slice A' n' c') ∧ w' = w'' := by
  by_cases c1 : r < 0
  · exact appendRune_bad_neg w A n c r A' n' c' w' hr0 c1 hr
  by_cases c2 : r ≤ 2047
  · exact appendRune_two w A n c r A' n' c' w' (by omega) c2 hr
  by_cases c3 : r < 55296
  · exact appendRune_three_lo w A n c r A' n' c' w' (by omega) c3 hr
  by_cases c4 : r ≤ 57343
  · exact appendRune_bad_sur w A n c r A' n' c' w' (by omega) c4 hr
  by_cases c5 : r ≤ 65535
  · exact appendRune_three_hi w A n c r A' n' c' w' (by omega) c5 hr
  by_cases c6 : r ≤ 1114111
  · exact appendRune_four w A n c r A' n' c' w' (by omega) c6 hr
  · exact appendRune_bad_big w A n c r A' n' c' w' (by omega) hr1 hr

set_option maxHeartbeats 1600000 in
set_option maxRecDepth 100000 in
theorem utf8_AppendRune (w : World) (A : Option Addr) (n c : Nat) (r : Int) (A' : Option Addr) (n' c' : Nat) (w' : World) (hr0 : -2147483648 ≤ r) (hr1 : r ≤ 2147483647) (hr : RuneRun w A n c r (.slice A' n' c') w') :
    Calls Tryd.prog 59 #[.slice A n c, .int .i32 r] w fun e w'' => e = .returned (.slice A' n' c') ∧ w' = w'' := by
  by_cases ha : 0 ≤ r ∧ r ≤ 127
  · obtain ⟨h0, h1⟩ := ha
    have hrun : (Builtin.append_ #[22, 22] 22 #[.slice A n c, .slice (some ⟨w.heap.size, 0, none⟩) 1 1]).run Tryd.prog (w.alloc (.cells #[.int .u8 r] 5)) = .ok (.slice A' n' c') w' := by
      have := hr
      unfold RuneRun at this
      rw [Lib.runeCells, Lib.encodeRuneZ_one h0 h1] at this
      exact this
    clear hr
    go_enter Tryd.func59, Tryd.ntmps59
    go_wp2_with (at_builtin; refine wpList_append_run rfl _ _ _ _ rfl rfl rfl hrun ?_)
    go_ret
    exact ⟨rfl, rfl⟩
  · have HN := Lib.hid (utf8_appendRuneNonASCII w A n c r A' n' c' w' hr0 hr1 (by omega) hr)
    clear hr
    by_cases h0 : r < 0
    · clear ha
      go_enter Tryd.func59, Tryd.ntmps59
      go_wp2_with fail
      refine HN.out.mono ?_
      rintro e w2 ⟨rfl, rfl⟩
      go_wp2_with fail
      go_ret
      exact ⟨rfl, rfl⟩
    · have h2 : 128 ≤ r := by omega
      clear ha h0
      go_enter Tryd.func59, Tryd.ntmps59
      go_wp2_with fail
      refine HN.out.mono ?_
      rintro e w2 ⟨rfl, rfl⟩
      go_wp2_with fail
      go_ret
      exact ⟨rfl, rfl⟩

end Go.Proofs.YtgniidnbpkhmcaaDoor
