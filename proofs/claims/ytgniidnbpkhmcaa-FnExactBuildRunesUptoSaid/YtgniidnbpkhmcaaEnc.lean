/- The reference's encodings of code points. -/
import Derived.Test.YtgniidnbpkhmcaaNums
import Derived.Lib.RuneBytes
namespace Go.Proofs.Ytgniidnbpkhmcaa
open Go.RowKit
set_option linter.unusedVariables false
attribute [local go_sem ↓] Go.wp_at_zero Go.wp_at_succ

/-- A number that UTF-8 encodes. -/
def validB (r : Int) : Bool := decide ((0 ≤ r ∧ r < 55296) ∨ (57343 < r ∧ r ≤ 1114111))
def encs (zs : List Int) : List (List UInt8) := zs.map Lib.encodeRune
theorem enc_len (r : Int) : 1 ≤ (Lib.encodeRune r).length ∧ (Lib.encodeRune r).length ≤ 4 := by
  have := Lib.runeCells_le r
  rw [Lib.runeCells_length] at this
  exact this
theorem encs_le (zs : List Int) : ((encs zs).map List.length).sum ≤ 4 * zs.length := by
  induction zs with
  | nil => simp [encs]
  | cons z r ih =>
    have := (enc_len z).2
    simp only [encs, List.map_cons, List.sum_cons, List.length_cons] at ih ⊢
    omega

theorem spec_Valid (r : Int) (w : World) (hr0 : -2147483648 ≤ r) (hr1 : r ≤ 2147483647) :
    Calls Try.prog 37 #[.int .i32 r] w fun e w' => e = .returned (.bool (validB r)) ∧ w = w' := by
  by_cases c1 : r < 0
  · have : validB r = false := by simp [validB]; omega
    rw [this]
    have h1 : decide ((57343 : Int) < r) = false := by simp; omega
    go_enter Try.func37, Try.ntmps37
    go_wp2_with fail
    go_ret
    exact ⟨rfl, rfl⟩
  by_cases c2 : r < 55296
  · have : validB r = true := by simp [validB]; omega
    rw [this]
    go_enter Try.func37, Try.ntmps37
    go_wp2_with fail
    go_ret
    exact ⟨rfl, rfl⟩
  by_cases c3 : r ≤ 57343
  · have : validB r = false := by simp [validB]; omega
    rw [this]
    have h1 : decide ((57343 : Int) < r) = false := by simp; omega
    go_enter Try.func37, Try.ntmps37
    go_wp2_with fail
    go_ret
    exact ⟨rfl, rfl⟩
  · have h1 : decide ((57343 : Int) < r) = true := by simp; omega
    by_cases c4 : r ≤ 1114111
    · have : validB r = true := by simp [validB]; omega
      rw [this]
      go_enter Try.func37, Try.ntmps37
      go_wp2_with fail
      go_ret
      exact ⟨rfl, rfl⟩
    · have : validB r = false := by simp [validB]; omega
      rw [this]
      have h2 : decide (r ≤ 1114111) = false := by simp; omega
      go_enter Try.func37, Try.ntmps37
      go_wp2_with fail
      go_ret
      exact ⟨rfl, rfl⟩

/-- Bytes by numbers in a new row, as a string. -/
theorem str_new (w : World) (xs : List Int) (l : List UInt8) (h : xs.map (fun x => Value.int .u8 x) = l.map bv) (hn : xs.length = l.length) :
    (convert 22 9 (.slice (some ⟨w.heap.size, 0, none⟩) l.length l.length)).run Try.prog (w.alloc (.cells (xs.map fun x => Value.int .u8 x).toArray 5)) = .ok (.string ⟨l.toArray⟩) (w.alloc (.cells (xs.map fun x => Value.int .u8 x).toArray 5)) := by
  refine run_string_sl (P := Try.prog) (w := w.alloc (.cells (xs.map fun x => Value.int .u8 x).toArray 5)) ⟨rfl, ?_⟩ 22 9 5 l.length Try.underlying22 Try.underlying5 Try.underlying9
  rw [h]
  intro j hj
  refine ⟨_, rfl, ?_⟩
  rw [add_at, Nat.zero_add, cell_of_row _ _ j _ 5 (0, 0) (heap_alloc_new w _)]
  simp [hj]
theorem str_rune (w : World) (r : Int) : (convert 22 9 (.slice (some ⟨w.heap.size, 0, none⟩) (Lib.encodeRune r).length (Lib.encodeRune r).length)).run Try.prog (w.alloc (.cells (Lib.runeCells r).toArray 5)) = .ok (.string ⟨(Lib.encodeRune r).toArray⟩) (w.alloc (.cells (Lib.runeCells r).toArray 5)) :=
  str_new w (Lib.encodeRuneZ r) (Lib.encodeRune r) (Lib.byteCells_encodeRune r).symm (by simp [Lib.encodeRune])

set_option maxHeartbeats 1600000 in
set_option maxRecDepth 100000 in
theorem Encode_one (w : World) (r : Int) (h0 : 0 ≤ r) (h1 : r ≤ 127) :
    Calls Try.prog 39 #[.int .i32 r] w fun e w' => ∃ s, e = .returned (.string ⟨s.toArray⟩) ∧ Hid (s = Lib.encodeRune r) ∧ Fr [] w w' := by
  have hst : (convert 22 9 (.slice (some ⟨w.heap.size, 0, none⟩) 1 1)).run Try.prog (w.alloc (.cells #[.int .u8 r] 5)) = .ok (.string ⟨(Lib.encodeRune r).toArray⟩) (w.alloc (.cells #[.int .u8 r] 5)) := by
    have := str_rune w r
    rw [← Lib.runeCells_length, Lib.runeCells, Lib.encodeRuneZ_one h0 h1] at this
    exact this
  generalize hs : Lib.encodeRune r = s at *
  clear hs
  go_enter Try.func39, Try.ntmps39
  go_wp2_with fail
  go_ret
  exact ⟨s, rfl, rfl, (Fr.refl [] w).alloc _⟩

set_option maxHeartbeats 1600000 in
set_option maxRecDepth 100000 in
theorem Encode_two (w : World) (r : Int) (h0 : 128 ≤ r) (h1 : r ≤ 2047) :
    Calls Try.prog 39 #[.int .i32 r] w fun e w' => ∃ s, e = .returned (.string ⟨s.toArray⟩) ∧ Hid (s = Lib.encodeRune r) ∧ Fr [] w w' := by
  have hst : (convert 22 9 (.slice (some ⟨w.heap.size, 0, none⟩) 2 2)).run Try.prog (w.alloc (.cells #[.int .u8 (192 + r / 64), .int .u8 (128 + r % 64)] 5)) = .ok (.string ⟨(Lib.encodeRune r).toArray⟩) (w.alloc (.cells #[.int .u8 (192 + r / 64), .int .u8 (128 + r % 64)] 5)) := by
    have := str_rune w r
    rw [← Lib.runeCells_length, Lib.runeCells, Lib.encodeRuneZ_two h0 h1] at this
    exact this
  generalize hs : Lib.encodeRune r = s at *
  clear hs
  go_enter Try.func39, Try.ntmps39
  go_wp2_with fail
  go_ret
  exact ⟨s, rfl, rfl, (Fr.refl [] w).alloc _⟩

set_option maxHeartbeats 1600000 in
set_option maxRecDepth 100000 in
theorem Encode_three_lo (w : World) (r : Int) (h0 : 2048 ≤ r) (h1 : r < 55296) :
    Calls Try.prog 39 #[.int .i32 r] w fun e w' => ∃ s, e = .returned (.string ⟨s.toArray⟩) ∧ Hid (s = Lib.encodeRune r) ∧ Fr [] w w' := by
  have hst : (convert 22 9 (.slice (some ⟨w.heap.size, 0, none⟩) 3 3)).run Try.prog (w.alloc (.cells #[.int .u8 (224 + r / 4096), .int .u8 (128 + r / 64 % 64), .int .u8 (128 + r % 64)] 5)) = .ok (.string ⟨(Lib.encodeRune r).toArray⟩) (w.alloc (.cells #[.int .u8 (224 + r / 4096), .int .u8 (128 + r / 64 % 64), .int .u8 (128 + r % 64)] 5)) := by
    have := str_rune w r
    rw [← Lib.runeCells_length, Lib.runeCells, Lib.encodeRuneZ_three (.inl ⟨h0, h1⟩)] at this
    exact this
  generalize hs : Lib.encodeRune r = s at *
  clear hs
  go_enter Try.func39, Try.ntmps39
  go_wp2_with fail
  go_ret
  exact ⟨s, rfl, rfl, (Fr.refl [] w).alloc _⟩

set_option maxHeartbeats 1600000 in
set_option maxRecDepth 100000 in
theorem Encode_three_hi (w : World) (r : Int) (h0 : 57343 < r) (h1 : r ≤ 65535) :
    Calls Try.prog 39 #[.int .i32 r] w fun e w' => ∃ s, e = .returned (.string ⟨s.toArray⟩) ∧ Hid (s = Lib.encodeRune r) ∧ Fr [] w w' := by
  have hst : (convert 22 9 (.slice (some ⟨w.heap.size, 0, none⟩) 3 3)).run Try.prog (w.alloc (.cells #[.int .u8 (224 + r / 4096), .int .u8 (128 + r / 64 % 64), .int .u8 (128 + r % 64)] 5)) = .ok (.string ⟨(Lib.encodeRune r).toArray⟩) (w.alloc (.cells #[.int .u8 (224 + r / 4096), .int .u8 (128 + r / 64 % 64), .int .u8 (128 + r % 64)] 5)) := by
    have := str_rune w r
    rw [← Lib.runeCells_length, Lib.runeCells, Lib.encodeRuneZ_three (.inr ⟨h0, h1⟩)] at this
    exact this
  generalize hs : Lib.encodeRune r = s at *
  clear hs
  go_enter Try.func39, Try.ntmps39
  go_wp2_with fail
  go_ret
  exact ⟨s, rfl, rfl, (Fr.refl [] w).alloc _⟩

set_option maxHeartbeats 1600000 in
set_option maxRecDepth 100000 in
theorem Encode_four (w : World) (r : Int) (h0 : 65536 ≤ r) (h1 : r ≤ 1114111) :
    Calls Try.prog 39 #[.int .i32 r] w fun e w' => ∃ s, e = .returned (.string ⟨s.toArray⟩) ∧ Hid (s = Lib.encodeRune r) ∧ Fr [] w w' := by
  have hst : (convert 22 9 (.slice (some ⟨w.heap.size, 0, none⟩) 4 4)).run Try.prog (w.alloc (.cells #[.int .u8 (240 + r / 262144), .int .u8 (128 + r / 4096 % 64), .int .u8 (128 + r / 64 % 64), .int .u8 (128 + r % 64)] 5)) = .ok (.string ⟨(Lib.encodeRune r).toArray⟩) (w.alloc (.cells #[.int .u8 (240 + r / 262144), .int .u8 (128 + r / 4096 % 64), .int .u8 (128 + r / 64 % 64), .int .u8 (128 + r % 64)] 5)) := by
    have := str_rune w r
    rw [← Lib.runeCells_length, Lib.runeCells, Lib.encodeRuneZ_four h0 h1] at this
    exact this
  generalize hs : Lib.encodeRune r = s at *
  clear hs
  go_enter Try.func39, Try.ntmps39
  go_wp2_with fail
  go_ret
  exact ⟨s, rfl, rfl, (Fr.refl [] w).alloc _⟩

theorem spec_Encode (w : World) (r : Int) (hv : validB r = true) :
    Calls Try.prog 39 #[.int .i32 r] w fun e w' => ∃ s, e = .returned (.string ⟨s.toArray⟩) ∧ Hid (s = Lib.encodeRune r) ∧ Fr [] w w' := by
  have hv' := of_decide_eq_true hv
  by_cases c1 : r ≤ 127
  · exact Encode_one w r (by omega) c1
  by_cases c2 : r ≤ 2047
  · exact Encode_two w r (by omega) c2
  by_cases c3 : r < 55296
  · exact Encode_three_lo w r (by omega) c3
  by_cases c5 : r ≤ 65535
  · exact Encode_three_hi w r (by omega) c5
  · exact Encode_four w r (by omega) (by omega)

/-- What AllValid returns. -/
def AvPost (zs : List Int) (w : World) (e : Ending) (w' : World) : Prop := ∃ b : Bool, e = .returned (.bool b) ∧ Hid (b = true → ∀ z ∈ zs, validB z = true) ∧ w = w'

theorem spec_AllValid (A : Option Addr) (n c : Nat) (zs : List Int) (w : World) (hS : Slv w A n (zs.map fun z => Value.int .i32 z)) (hz : ∀ z ∈ zs, -2147483648 ≤ z ∧ z ≤ 2147483647) (hN : n ≤ 9223372036854775807) :
    Calls Try.prog 24 #[.slice A n c] w (AvPost zs w) := by
  have hn : n = zs.length := by have := hS.1; simpa using this
  have HN := Lib.hid hn
  clear hn
  go_enter Try.func24, Try.ntmps24
  go_wp2_with fail
  go_loop [7] (fun i => ∃ k : Nat, k ≤ n ∧ i = .int .i64 (k : Int) ∧ Hid (∀ z ∈ zs.take k, validB z = true)) (fun i => n - (intOf i).toNat)
  case atStart => exact ⟨0, Nat.zero_le _, rfl, by intro z hz; simp at hz⟩
  case round =>
    obtain ⟨k, hk, rfl, H⟩ := hrel
    by_cases hlt : k < n
    · obtain ⟨ad, u, rfl, hu, hc⟩ := hS.at_ hlt
      rw [List.getElem?_map] at hu
      cases hzk : zs[k]? with
      | none => rw [hzk] at hu; cases hu
      | some z =>
        rw [hzk] at hu
        simp only [Option.map_some, Option.some.injEq] at hu
        subst hu
        have hz' := hz z (List.mem_of_getElem? hzk)
        have hv := spec_Valid z w hz'.1 hz'.2
        have HZ := Lib.hid hzk
        clear hzk hz'
        by_cases hb : validB z = true
        · rw [hb] at hv
          have HB := Lib.hid hb
          clear hb
          go_wp2_with fail
          refine hv.mono ?_
          rintro e w2 ⟨rfl, rfl⟩
          go_wp2_with fail
          go_round
          case rel =>
            refine ⟨k + 1, by omega, by go_num, ?_⟩
            intro y hy
            rw [take_next zs k z HZ.out] at hy
            rcases List.mem_append.1 hy with h | h
            · exact H.out y h
            · simp at h
              rw [h]
              exact HB.out
          case measure => simp [intOf]; omega
        · have hb' : validB z = false := by simpa using hb
          rw [hb'] at hv
          clear hb hb'
          go_wp2_with fail
          refine hv.mono ?_
          rintro e w2 ⟨rfl, rfl⟩
          go_wp2_with fail
          go_ret
          exact ⟨false, rfl, fun h => by simp at h, rfl⟩
    · obtain rfl : k = n := by omega
      go_wp2_with fail
      go_ret
      refine ⟨true, rfl, fun _ z hz => ?_, rfl⟩
      exact H.out z (by rw [List.take_of_length_le (by have := HN.out; omega)]; exact hz)

/-- The loop of Encodings. -/
def EncRel (w : World) (zs : List Int) (v s i : Value) (wr : World) : Prop :=
  ∃ (k : Nat) (t : List UInt8), k ≤ zs.length ∧ i = .int .i64 (k : Int) ∧ s = .string ⟨t.toArray⟩ ∧ Hid (t = ((encs zs).take k).flatten) ∧ wr.ownsRow w.heap.size 3 1 v k ((((encs zs).take k).map List.length).map iv) ∧ Fr [] w wr

set_option maxHeartbeats 800000 in
theorem spec_Encodings (A : Option Addr) (n c : Nat) (zs : List Int) (w : World) (hS : Slv w A n (zs.map fun z => Value.int .i32 z)) (hv : ∀ z ∈ zs, validB z = true) (hN : n ≤ 2097152) :
    Calls Try.prog 26 #[.slice A n c] w fun e w' => ∃ A' c' s, e = .returned (.tuple #[.slice A' n c', .string ⟨s.toArray⟩]) ∧ Slv w' A' n (((encs zs).map List.length).map iv) ∧ Hid (s = (encs zs).flatten) ∧ Fr [] w w' := by
  have hn : n = zs.length := by have := hS.1; simpa using this
  have HN := Lib.hid hn
  have hel := encs_le zs
  rw [← hn] at hel
  clear hn
  go_enter Try.func26, Try.ntmps26
  go_wp2_with fail
  go_loopw [4, 5, 11] (fun v s i wr => EncRel w zs v s i wr) (fun _ _ i _ => n - (intOf i).toNat)
  case atStart => exact ⟨0, [], Nat.zero_le _, rfl, rfl, rfl, own_empty w 3 1, (Fr.refl [] w).alloc _⟩
  case round =>
    obtain ⟨k, t, hk, rfl, rfl, HT, ho, hf1⟩ := hrel
    obtain ⟨A', c', rfl⟩ := own_form ho
    by_cases hlt : k < n
    · obtain ⟨ad, u, rfl, hu, hc⟩ := (hS.fr_old hf1 (by simp)).at_ hlt
      rw [List.getElem?_map] at hu
      cases hzk : zs[k]? with
      | none => rw [hzk] at hu; cases hu
      | some z =>
        rw [hzk] at hu
        simp only [Option.map_some, Option.some.injEq] at hu
        subst hu
        have hv' := hv z (List.mem_of_getElem? hzk)
        have hx : (encs zs)[k]? = some (Lib.encodeRune z) := by simp [encs, hzk]
        have hsum := len_le_sum (encs zs) k _ hx
        rw [← HT.out] at hsum
        have HX := Lib.hid hx
        have HE := Lib.hid fun W => spec_Encode W z hv'
        clear hx hzk hv'
        have hel4 := enc_len z
        go_wp2_with fail
        refine (HE.out _).mono ?_
        rintro e w2 ⟨x, rfl, H2, hf2⟩
        have hxl : x.length ≤ 4 := by rw [H2.out]; exact hel4.2
        have ho2 := hf2.own ho (by simp)
        have hsz : w.heap.size ≤ w2.heap.size := Nat.le_trans hf1.size hf2.size
        obtain ⟨v', w', hrun, ho', hg', hb'⟩ := run_app (P := Try.prog) (w2.alloc (.cells #[.int .i64 (x.length : Int)] 3)) w.heap.size 27 27 27 3 _ 1 8 Try.underlying27 infoI rfl (by decide) _ _ _ (ho2.alloc _) _ 1 _
          (src_one w2 (.int .i64 (x.length : Int)) 3 3 27 Try.underlying27 rfl 1) (by omega) (by omega) (by simp; omega)
        go_wp2_with (at_builtin; refine wpList_append_run rfl _ _ _ _ rfl rfl rfl hrun ?_)
        refine (HE.out _).mono ?_
        rintro e w4 ⟨y, rfl, H4, hf4⟩
        obtain rfl : x = y := by rw [H2.out, H4.out]
        have htl : t.length + x.length ≤ 9223372036854775807 := by omega
        clear H4
        go_wp2_with fail
        go_roundw
        case rel =>
          refine ⟨k + 1, t ++ x, by have := HN.out; omega, by go_num, rfl, ?_, ?_, (Fr.app (hf1.trans hf2) ho2 hg').trans hf4⟩
          · show _ = _
            rw [flat_next (encs zs) k _ HX.out, ← HT.out, H2.out]
          · rw [take_next (encs zs) k _ HX.out, List.map_append, List.map_append, ← H2.out]
            exact hf4.own ho' (by simp)
        case measure => simp [intOf]; omega
    · obtain rfl : k = n := by have := HN.out; omega
      go_wp2_with fail
      go_ret2
      have hv2 := own_slv ho
      rw [List.take_of_length_le (by have := HN.out; simp [encs]; omega)] at hv2
      exact ⟨_, _, _, rfl, hv2, by show _ = _; rw [HT.out, List.take_of_length_le (by have := HN.out; simp [encs]; omega)], hf1⟩

end Go.Proofs.Ytgniidnbpkhmcaa
