/- Drawn code points. -/
import Derived.Test.YtgniidnbpkhmcaaDoorEnc
import Derived.Test.YtgniidnbpkhmcaaDoorDraw4
namespace Go.Proofs.YtgniidnbpkhmcaaDoor
open Go.RowKit
set_option linter.unusedVariables false
attribute [local go_sem ↓] Go.wp_at_zero Go.wp_at_succ

/-- One of the numbers in a new row. -/
theorem runes_of (w : World) (r : Nat) (zs : List Int) (hz : ∀ z ∈ zs, -2147483648 ≤ z ∧ z ≤ 2147483647) (hr : r < w.heap.size) :
    ∀ (W : World) (y : Nat), Fr [r] (w.alloc (.cells (zs.map fun z => Value.int .i32 z).toArray 21)) W → y < zs.length → ∃ a : Int, W.cell? ⟨w.heap.size, y, none⟩ = some (.int .i32 a) ∧ a ∈ zs := by
  intro W y hf hy
  have hk := (Blk.new w 21 (zs.map fun z => Value.int .i32 z).toArray).fr hf (by simp; omega)
  have hc := hk.cell y
  refine ⟨zs[y], ?_, List.getElem_mem _⟩
  rw [hc]
  simp [hy]

def CharPost (v : Bool) (r : Nat) (A : Option Addr) (n c : Nat) (l : List UInt8) (q : Nat) (w : World) (e : Ending) (w' : World) : Prop :=
  ∃ z : Int, e = .returned (.int .i32 z) ∧ (-2147483648 ≤ z ∧ z ≤ 2147483647) ∧ (v = true → validB z = true) ∧ Dr w' r A n c l (q + 3) ∧ Fr [r] w w'

set_option maxHeartbeats 1600000 in
theorem rd_char (v : Bool) (w : World) (r : Nat) (A : Option Addr) (n c : Nat) (l : List UInt8) (q : Nat) (h : Dr w r A n c l q) (hq : q ≤ 800000) :
    Calls Tryd.prog 58 #[.pointer (some ⟨r, 0, none⟩), .bool v] w (CharPost v r A n c l q w) := by
  go_enter Tryd.func58, Tryd.ntmps58
  go_wp2_with fail
  refine (rd_pick w r A n c l q 6 h (by omega) (by omega) (by omega)).mono ?_
  rintro e w1 ⟨x, rfl, hx, hD1, hf1⟩
  rcases (show (((x : Int) == 0) = true) ∨ (((x : Int) == 0) = false ∧ ((x : Int) == 1) = true) ∨ (((x : Int) == 0) = false ∧ ((x : Int) == 1) = false ∧ ((x : Int) == 2) = true) ∨ (((x : Int) == 0) = false ∧ ((x : Int) == 1) = false ∧ ((x : Int) == 2) = false ∧ ((x : Int) == 3) = true) ∨ (((x : Int) == 0) = false ∧ ((x : Int) == 1) = false ∧ ((x : Int) == 2) = false ∧ ((x : Int) == 3) = false) by simp; omega) with m0 | ⟨m0, m1⟩ | ⟨m0, m1, m2⟩ | ⟨m0, m1, m2, m3⟩ | ⟨m0, m1, m2, m3⟩
  · skip
    have hlt := hD1.lt
    have HV := Lib.hid (runes_of w1 r [0, 127, 128, 2047, 2048, 55295, 57344, 65533, 65535, 65536, 1114111] (by decide) hlt)
    have hP0 : Calls Tryd.prog 36 #[.pointer (some ⟨r, 0, none⟩), .int .i64 11] (w1.alloc (.cells ([0, 127, 128, 2047, 2048, 55295, 57344, 65533, 65535, 65536, 1114111].map fun z => Value.int .i32 z).toArray 21)) _ := rd_pick _ r A n c l _ 11 (hD1.alloc _) (by omega) (by omega) (by omega)
    have HP := Lib.hid hP0
    clear hP0
    go_wp2_with fail
    refine HP.out.mono ?_
    rintro e w2 ⟨y, rfl, hy, hD2, hf2⟩
    obtain ⟨a, hc, ha⟩ := HV.out w2 y hf2 hy
    have hrg : -2147483648 ≤ a ∧ a ≤ 2147483647 := (show ∀ z ∈ ([0, 127, 128, 2047, 2048, 55295, 57344, 65533, 65535, 65536, 1114111] : List Int), -2147483648 ≤ z ∧ z ≤ 2147483647 by decide) a ha
    have HA := Lib.hid ha
    clear ha
    go_wp2_with fail
    go_ret
    exact ⟨a, rfl, hrg, fun _ => (show ∀ z ∈ ([0, 127, 128, 2047, 2048, 55295, 57344, 65533, 65535, 65536, 1114111] : List Int), validB z = true by decide) a HA.out, hD2.mono (by omega), (hf1.alloc _).trans hf2⟩
  · cases v with
    | true =>
      go_wp2_with fail
      go_ret
      exact ⟨98, rfl, by omega, fun _ => by decide, hD1.mono (by omega), hf1⟩
    | false =>
      have hlt := hD1.lt
      have HV := Lib.hid (runes_of w1 r [-1, 55296, 57343, 1114112, -2147483648, 2147483647] (by decide) hlt)
      have hP0 : Calls Tryd.prog 36 #[.pointer (some ⟨r, 0, none⟩), .int .i64 6] (w1.alloc (.cells ([-1, 55296, 57343, 1114112, -2147483648, 2147483647].map fun z => Value.int .i32 z).toArray 21)) _ := rd_pick _ r A n c l _ 6 (hD1.alloc _) (by omega) (by omega) (by omega)
      have HP := Lib.hid hP0
      clear hP0
      go_wp2_with fail
      refine HP.out.mono ?_
      rintro e w2 ⟨y, rfl, hy, hD2, hf2⟩
      obtain ⟨a, hc, ha⟩ := HV.out w2 y hf2 hy
      have hrg : -2147483648 ≤ a ∧ a ≤ 2147483647 := (show ∀ z ∈ ([-1, 55296, 57343, 1114112, -2147483648, 2147483647] : List Int), -2147483648 ≤ z ∧ z ≤ 2147483647 by decide) a ha
      have HA := Lib.hid ha
      clear ha
      go_wp2_with fail
      go_ret
      exact ⟨a, rfl, hrg, (fun h => by cases h), hD2.mono (by omega), (hf1.alloc _).trans hf2⟩
  · go_wp2_with fail
    refine (rd_pick w1 r A n c l _ 256 hD1 (by omega) (by omega) (by omega)).mono ?_
    rintro e w2 ⟨y, rfl, hy, hD2, hf2⟩
    go_wp2_with fail
    refine (rd_pick w2 r A n c l _ 256 hD2 (by omega) (by omega) (by omega)).mono ?_
    rintro e w3 ⟨z, rfl, hz, hD3, hf3⟩
    go_wp2_with fail
    go_ret
    exact ⟨65536 + (y : Int) * 256 + z, ret_int (by simp; try omega), by omega, fun _ => by simp [validB]; omega, hD3.mono (by omega), (hf1.trans hf2).trans hf3⟩
  · go_wp2_with fail
    refine (rd_pick w1 r A n c l _ 256 hD1 (by omega) (by omega) (by omega)).mono ?_
    rintro e w2 ⟨y, rfl, hy, hD2, hf2⟩
    go_wp2_with fail
    refine (rd_pick w2 r A n c l _ 256 hD2 (by omega) (by omega) (by omega)).mono ?_
    rintro e w3 ⟨z, rfl, hz, hD3, hf3⟩
    have hvl := spec_Valid ((y : Int) * 256 + z) w3 (by omega) (by omega)
    go_wp2_with fail
    refine hvl.mono ?_
    rintro e w4 ⟨rfl, rfl⟩
    cases hb : validB ((y : Int) * 256 + z) with
    | true =>
      go_wp2_with fail
      go_ret
      exact ⟨(y : Int) * 256 + z, rfl, by omega, fun _ => hb, hD3.mono (by omega), (hf1.trans hf2).trans hf3⟩
    | false =>
      go_wp2_with fail
      go_ret
      exact ⟨99, rfl, by omega, fun _ => by decide, hD3.mono (by omega), (hf1.trans hf2).trans hf3⟩
  · go_wp2_with fail
    refine (rd_pick w1 r A n c l _ 26 hD1 (by omega) (by omega) (by omega)).mono ?_
    rintro e w2 ⟨y, rfl, hy, hD2, hf2⟩
    go_wp2_with fail
    go_ret
    exact ⟨97 + (y : Int), ret_int (by simp; try omega), by omega, fun _ => by simp [validB]; omega, hD2.mono (by omega), hf1.trans hf2⟩

theorem infoRn : (Tryd.prog.info? 21).map (fun i => (i.zero, i.size, i.bytes)) = some (some (.int .i32 0), 1, 4) := by kernel_rfl
/-- The loop of code points: k more rounds. -/
def RunesRel (v : Bool) (w : World) (r : Nat) (A : Option Addr) (n c : Nat) (l : List UInt8) (q : Nat) (u i : Value) (wr : World) : Prop :=
  ∃ (k : Nat) (zs : List Int), k ≤ 7 ∧ i = .int .i64 (k : Int) ∧ zs.length + k ≤ 7 ∧ wr.ownsRow w.heap.size 21 1 u zs.length (zs.map fun z => Value.int .i32 z) ∧ (∀ z ∈ zs, -2147483648 ≤ z ∧ z ≤ 2147483647) ∧ (v = true → ∀ z ∈ zs, validB z = true) ∧ Dr wr r A n c l (q + 3 * (7 - k)) ∧ Fr [] w wr

set_option maxHeartbeats 800000 in
set_option maxRecDepth 100000 in
theorem DrawWriteRunes (A : Option Addr) (n c : Nat) (l : List UInt8) (w : World) (hS : Sl w A n l) (hn : n ≤ 1048576) :
    Calls Tryd.prog 41 #[.slice A n c] w fun e w' => ∃ (B : Option Addr) (k d : Nat) (zs : List Int), e = .returned (.slice B k d) ∧ k ≤ 7 ∧ Slv w' B k (zs.map fun z => Value.int .i32 z) ∧ (∀ z ∈ zs, -2147483648 ≤ z ∧ z ≤ 2147483647) ∧ k ≤ d ∧ Fr [] w w' := by
  have hA : 0 < n → ∀ ad, A = some ad → ad.block < w.heap.size := hS.old
  have HA := Lib.hid hA
  clear hA
  go_enter Tryd.func41, Tryd.ntmps41
  go_wp2_with fail
  refine (rd_pick _ w.heap.size A n c l 0 3 (Dr.made hS hn) (by omega) (by omega) (by omega)).mono ?_
  rintro e w1 ⟨x, rfl, hx, hD1, hf1⟩
  have hf01 := ((Fr.refl [] w).alloc (.cells #[.slice A n c, .int .i64 0] 72)).trans_of hf1 (by simp)
  have hsz1 := hf01.size
  have hlt1 := hD1.lt
  go_wp2_with fail
  refine (rd_pick _ w.heap.size A n c l _ 8 (hD1.alloc _) (by omega) (by omega) (by omega)).mono ?_
  rintro e w2 ⟨y, rfl, hy, hD2, hf2⟩
  go_wp2_with fail
  generalize decide (0 < x) = v
  go_loopw [5, 6] (fun u i wr => RunesRel v w w.heap.size A n c l 2 u i wr) (fun _ i _ => (intOf i).toNat)
  case atStart =>
    refine ⟨y, [], by omega, rfl, by simp; omega, ?_, by simp, by simp, hD2.mono (by omega), (hf01.alloc _).trans_of hf2 (by simp)⟩
    have := own_empty w1 21 1
    exact hf2.own (w := w1.alloc (.cells #[] 21)) ⟨this.1, by
      rcases this.2 with h | ⟨x, cap, cur, hv, hb', rest⟩
      · exact .inl h
      · exact .inr ⟨x, cap, cur, hv, Nat.le_trans hsz1 hb', rest⟩⟩ (by simp [Value.ownBlock]; omega)
  case round =>
    obtain ⟨k, zs, hk, rfl, hz, ho, hzz, hvv, hD, hf⟩ := hrel
    obtain ⟨A', c', rfl⟩ := own_form ho
    by_cases h0 : 0 < k
    · go_wp2_with fail
      refine (rd_char v _ w.heap.size A n c l _ hD (by omega)).mono ?_
      rintro e w3 ⟨a, rfl, ha, hav, hD3, hf3⟩
      have hne := own_ne_r hD ho (by decide)
      have ho3 := hf3.own ho (fun y hy => by have := hne y hy; simpa using this)
      have hfw := hf.trans_of hf3 (by simp)
      have hsz : w.heap.size ≤ w3.heap.size := hfw.size
      obtain ⟨v', w', hrun, ho', hg', hb'⟩ := run_app (P := Tryd.prog) (w3.alloc (.cells #[.int .i32 a] 21)) w.heap.size 46 46 46 21 _ 1 4 Tryd.underlying46 infoRn rfl (by decide) _ _ _ (ho3.alloc _) _ 1 _
        (src_one w3 (.int .i32 a) 21 21 46 Tryd.underlying46 rfl 1) (by omega) (by omega) (by simp; omega)
      have HAV := Lib.hid hav
      clear hav
      go_wp2_with (at_builtin; refine wpList_append_run rfl _ _ _ _ rfl rfl rfl hrun ?_)
      go_roundw
      case rel =>
        refine ⟨k - 1, zs ++ [a], by omega, vint (by omega), by simp; omega, ?_, ?_, ?_, (hD3.app (w := w) ho3 HA.out (by decide) hg').mono (by omega), hfw.app ho3 hg'⟩
        · rw [List.length_append, List.map_append]
          exact ho'
        · intro z hz
          rcases List.mem_append.1 hz with hz | hz
          · exact hzz z hz
          · simp at hz
            subst hz
            exact ha
        · intro e z hz
          rcases List.mem_append.1 hz with hz | hz
          · exact hvv e z hz
          · simp at hz
            subst hz
            exact HAV.out e
      case measure => simp [intOf]; omega
    · go_wp2_with fail
      go_ret
      exact ⟨_, _, _, zs, rfl, by omega, own_slv ho, hzz, own_cap ho, hf⟩

theorem DrawBuildRunes (A : Option Addr) (n c : Nat) (l : List UInt8) (w : World) (hS : Sl w A n l) (hn : n ≤ 1048576) :
    Calls Tryd.prog 19 #[.slice A n c] w fun e w' => ∃ (B : Option Addr) (k d : Nat) (zs : List Int), e = .returned (.slice B k d) ∧ k ≤ 7 ∧ Slv w' B k (zs.map fun z => Value.int .i32 z) ∧ (∀ z ∈ zs, -2147483648 ≤ z ∧ z ≤ 2147483647) ∧ k ≤ d ∧ Fr [] w w' := by
  go_enter Tryd.func19, Tryd.ntmps19
  go_wp2_with fail
  refine (DrawWriteRunes A n c l w hS hn).mono ?_
  rintro e w1 ⟨B, k, d, zs, rfl, hk, hB, hz, hkd, hf⟩
  go_wp2_with fail
  go_ret
  exact ⟨B, k, d, zs, rfl, hk, hB, hz, hkd, hf⟩

end Go.Proofs.YtgniidnbpkhmcaaDoor
