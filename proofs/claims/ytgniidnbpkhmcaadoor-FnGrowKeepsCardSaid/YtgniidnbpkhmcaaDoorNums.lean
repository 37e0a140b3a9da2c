/- Lists of numbers and of texts in the laws: their contracts. -/
import Derived.Test.YtgniidnbpkhmcaaDoorSpec
import Derived.Test.YtgniidnbpkhmcaaDoorChunks
import Derived.Deep.RegionWith
import Derived.Deep.DrawnRows
import Derived.LoopTactic
namespace Go.Proofs.YtgniidnbpkhmcaaDoor
open Go.RowKit
set_option linter.unusedVariables false
attribute [local go_sem ↓] Go.wp_at_zero Go.wp_at_succ

/-- A number as a cell. -/
def iv (n : Nat) : Value := .int .i64 (n : Int)
theorem infoI : (Tryd.prog.info? 3).map (fun i => (i.zero, i.size, i.bytes)) = some (some (.int .i64 0), 1, 8) := by kernel_rfl
theorem infoStr : (Tryd.prog.info? 9).map (fun i => (i.zero, i.size, i.bytes)) = some (some (.string ByteArray.empty), 1, 16) := by kernel_rfl

theorem Sl.fr_old' {w w' : World} {A : Option Addr} {n : Nat} {l : List UInt8} (h : Sl w A n l) (hf : Fr [] w w') : Sl w' A n l := h.fr hf (by simp)

/-- The first k texts, and one more. -/
theorem take_next {α : Type} (ls : List α) (k : Nat) (x : α) (h : ls[k]? = some x) : ls.take (k + 1) = ls.take k ++ [x] := by
  obtain ⟨hk, rfl⟩ := List.getElem?_eq_some_iff.1 h
  exact List.take_succ_eq_append_getElem hk
theorem flat_next (ls : List (List UInt8)) (k : Nat) (x : List UInt8) (h : ls[k]? = some x) : (ls.take (k + 1)).flatten = (ls.take k).flatten ++ x := by
  rw [take_next ls k x h]
  simp
theorem flat_le (ls : List (List UInt8)) (k : Nat) : ((ls.take k).flatten).length ≤ (ls.map List.length).sum := by
  rw [List.length_flatten]
  have e : ls.map List.length = (ls.take k).map List.length ++ (ls.drop k).map List.length := by rw [← List.map_append, List.take_append_drop]
  rw [e, List.sum_append]
  omega
theorem len_le_sum (ls : List (List UInt8)) (k : Nat) (x : List UInt8) (h : ls[k]? = some x) : ((ls.take k).flatten).length + x.length ≤ (ls.map List.length).sum := by
  have := flat_le ls (k + 1)
  rw [flat_next ls k x h, List.length_append] at this
  exact this
/-- The k-th text of a slice of texts. -/
theorem Slv.text {w : World} {A : Option Addr} {n : Nat} {ls : List (List UInt8)} (h : Slv w A n (ls.map sv)) {k : Nat} (hk : k < n) : ∃ ad x, A = some ad ∧ ls[k]? = some x ∧ w.cell? (ad.add k) = some (.string ⟨x.toArray⟩) := by
  obtain ⟨ad, u, e, hu, hc⟩ := h.at_ hk
  rw [List.getElem?_map] at hu
  cases hx : ls[k]? with
  | none => rw [hx] at hu; cases hu
  | some x =>
    rw [hx] at hu
    simp only [Option.map_some, Option.some.injEq] at hu
    subst hu
    exact ⟨ad, x, e, rfl, hc⟩

theorem sameNumbers_true (A B : Option Addr) (n c d : Nat) (ns : List Nat) (w : World) (hA : Slv w A n (ns.map iv)) (hB : Slv w B n (ns.map iv)) (hn : n ≤ 9223372036854775807) :
    Calls Tryd.prog 15 #[.slice A n c, .slice B n d] w fun e w' => e = .returned (.bool true) ∧ Fr [] w w' := by
  go_enter Tryd.func15, Tryd.ntmps15
  go_wp2_with fail
  go_loopw [5, 13] (fun _ i wr => ∃ k, k ≤ n ∧ i = .int .i64 (k : Int) ∧ ∃ q, wr = w.drewN q) (fun _ i _ => n - (intOf i).toNat)
  case atStart => exact ⟨0, Nat.zero_le _, rfl, 0, rfl⟩
  case round =>
    obtain ⟨k, hk, rfl, q, rfl⟩ := hrel
    by_cases hlt : k < n
    · obtain ⟨ad, u, rfl, hu, hc⟩ := hA.at_ hlt
      obtain ⟨bd, u', rfl, hu', hc'⟩ := hB.at_ hlt
      rw [hu] at hu'
      obtain rfl : u = u' := by simpa using hu'
      clear hu'
      obtain ⟨x, rfl⟩ : ∃ x : Nat, u = .int .i64 (x : Int) := by
        rw [List.getElem?_map] at hu
        cases hx : ns[k]? with
        | none => rw [hx] at hu; cases hu
        | some x => rw [hx] at hu; exact ⟨x, by simpa [iv] using hu.symm⟩
      clear hu
      go_wp2_with fail
      go_quiet (fail)
      go_wp2
      go_roundw
      case rel => exact ⟨k + 1, by omega, by go_num, _, rfl⟩
      case measure => simp [intOf]; omega
    · go_wp2_with fail
      go_ret
      exact ⟨rfl, (Fr.refl [] w).drewN _⟩

/-- The loop of lengths. -/
def LenRel (w : World) (ls : List (List UInt8)) (v i : Value) (wr : World) : Prop :=
  ∃ k, k ≤ ls.length ∧ i = .int .i64 (k : Int) ∧ wr.ownsRow w.heap.size 3 1 v k (((ls.take k).map List.length).map iv) ∧ Fr [] w wr
theorem spec_Joined (A : Option Addr) (n c : Nat) (ls : List (List UInt8)) (w : World) (hS : Slv w A n (ls.map sv)) (hN : (ls.map List.length).sum ≤ 9223372036854775807) (hn1 : n ≤ 9223372036854775807) :
    Calls Tryd.prog 14 #[.slice A n c] w fun e w' => ∃ s, e = .returned (.string ⟨s.toArray⟩) ∧ Hid (s = ls.flatten) ∧ w = w' := by
  have hn : n = ls.length := by have := hS.1; simpa using this
  have HN := Lib.hid hn
  clear hn
  go_enter Tryd.func14, Tryd.ntmps14
  go_wp2_with fail
  go_loop [3, 8] (fun v i => ∃ k s, k ≤ n ∧ i = .int .i64 (k : Int) ∧ v = .string ⟨s.toArray⟩ ∧ Hid (s = (ls.take k).flatten)) (fun _ i => n - (intOf i).toNat)
  case atStart => exact ⟨0, [], Nat.zero_le _, rfl, rfl, rfl⟩
  case round =>
    obtain ⟨k, s, hk, rfl, rfl, H⟩ := hrel
    by_cases hlt : k < n
    · obtain ⟨ad, x, rfl, hx, hc⟩ := hS.text hlt
      have HX := Lib.hid hx
      have hl := len_le_sum ls k x hx
      clear hx
      have hl' : s.length + x.length ≤ 9223372036854775807 := by rw [H.out]; omega
      clear hl
      go_wp2_with fail
      go_round
      case rel => exact ⟨k + 1, s ++ x, by omega, by go_num, rfl, by show _ = _; rw [flat_next ls k x HX.out, H.out]⟩
      case measure => simp [intOf]; omega
    · go_wp2_with fail
      go_ret
      obtain rfl : k = n := by omega
      refine ⟨_, rfl, ?_, rfl⟩
      show _ = _
      rw [H.out, List.take_of_length_le (by have := HN.out; omega)]

/-- A slice of slices of bytes that reads as texts. -/
def Sls (w : World) (A : Option Addr) (n : Nat) (ls : List (List UInt8)) : Prop := ∃ us : List Value, Slv w A n us ∧ us.length = ls.length ∧ ∀ (k : Nat) (u : Value) (l : List UInt8), us[k]? = some u → ls[k]? = some l → ∃ B m c, u = Value.slice B m c ∧ Sl w B m l
theorem Sls.len {w : World} {A : Option Addr} {n : Nat} {ls : List (List UInt8)} (h : Sls w A n ls) : n = ls.length := by
  obtain ⟨us, h1, h2, _⟩ := h
  rw [h1.1, h2]
theorem Sls.at_ {w : World} {A : Option Addr} {n : Nat} {ls : List (List UInt8)} (h : Sls w A n ls) {k : Nat} (hk : k < n) : ∃ ad B m c x, A = some ad ∧ ls[k]? = some x ∧ w.cell? (ad.add k) = some (.slice B m c) ∧ Sl w B m x := by
  have hl := h.len
  obtain ⟨us, h1, h2, h3⟩ := h
  obtain ⟨ad, u, e, hu, hc⟩ := h1.at_ hk
  have hx : ls[k]? = some (ls[k]'(by omega)) := List.getElem?_eq_getElem _
  obtain ⟨B, m, c, rfl, hB⟩ := h3 k u _ hu hx
  exact ⟨ad, B, m, c, _, e, hx, hc, hB⟩
theorem Sls.fr_old {S : List Nat} {w w' : World} {A : Option Addr} {n : Nat} {ls : List (List UInt8)} (h : Sls w A n ls) (hf : Fr S w w') (hn : ∀ k ∈ S, w.heap.size ≤ k) : Sls w' A n ls := by
  obtain ⟨us, h1, h2, h3⟩ := h
  refine ⟨us, h1.fr_old hf hn, h2, fun k u l hu hl => ?_⟩
  obtain ⟨B, m, c, rfl, hB⟩ := h3 k u l hu hl
  refine ⟨B, m, c, rfl, hB.fr' hf fun h0 ad e hm => ?_⟩
  have := hB.old h0 ad e
  have := hn _ hm
  omega

/-- The loop of texts. -/
def TxRel (w : World) (ls : List (List UInt8)) (v i : Value) (wr : World) : Prop :=
  ∃ k, k ≤ ls.length ∧ i = .int .i64 (k : Int) ∧ wr.ownsRow w.heap.size 9 1 v k ((ls.take k).map sv) ∧ Fr [] w wr
/-- A row of which the head is written. -/
theorem rep_set (c : UInt8) (n k : Nat) (h : k < n) : (List.replicate k c ++ List.replicate (n - k) (0 : UInt8)).set k c = List.replicate (k + 1) c ++ List.replicate (n - (k + 1)) 0 := by
  obtain ⟨m, hm⟩ : ∃ m, n - k = m + 1 := ⟨n - k - 1, by omega⟩
  rw [List.set_append, if_neg (by simp), hm, show n - (k + 1) = m by omega]
  rw [List.replicate_succ' (n := k), List.replicate_succ (n := m)]
  simp
theorem row_zero (w : World) (n : Nat) : Row (w.alloc (.cells (madeCells #[.int .u8 0] n) 5)) w.heap.size (List.replicate n 0) := by
  have e : madeCells #[Value.int .u8 0] n = bvs (List.replicate n 0) := by
    apply Array.ext'
    rw [toList_madeCells_one]
    simp [bvs, bv]
  rw [e]
  exact ⟨0, 0, heap_alloc_new w _, .inl (Nat.le_refl _)⟩
theorem laws_repeated (x : UInt8) (n : Nat) (w : World) (hn : n ≤ 1048576) :
    Calls Tryd.prog 25 #[.int .u8 (x.toNat : Int), .int .i64 (n : Int)] w fun e w' => ∃ s, e = .returned (.string ⟨s.toArray⟩) ∧ Hid (s = List.replicate n x) ∧ Fr [] w w' := by
  obtain ⟨i, hi, hz0, hz1, hz2⟩ := info_parts (P := Tryd.prog) (e := 5) (z := .int .u8 0) (size := 1) (bytes := 1) (by kernel_rfl)
  have hmk := fun W => run_make (P := Tryd.prog) W 22 5 i (.int .u8 0) Tryd.underlying22 hi hz0 .i64 .i64 n n (by omega) (by omega) (by rw [hz2]; omega) (by omega)
  rw [hz1] at hmk
  simp only [Int.toNat_natCast, Nat.mul_one] at hmk
  go_enter Tryd.func25, Tryd.ntmps25
  go_wp2_with fail
  go_loopw [11, 6] (fun i _ wr => ∃ k, k ≤ n ∧ i = .int .i64 (k : Int) ∧ Row wr w.heap.size (List.replicate k x ++ List.replicate (n - k) 0) ∧ Fr [] w wr) (fun i _ _ => n - (intOf i).toNat)
  case atStart => exact ⟨0, Nat.zero_le _, rfl, by simpa using row_zero w n, (Fr.refl [] w).alloc _⟩
  case round =>
    obtain ⟨k, hk, rfl, hR, hf⟩ := hrel
    by_cases hlt : k < n
    · have hc := hR.cell k
      have hz := hR.frozen (i := k) (by simp; omega)
      have hR' := hR.set_ k x
      rw [rep_set x n k hlt] at hR'
      rw [List.getElem?_eq_getElem (by simp; omega)] at hc
      simp only [Option.map_some, bv] at hc
      generalize (List.replicate k x ++ List.replicate (n - k) 0)[k]'(by simp; omega) = y at hc
      have HR := Lib.hid hR'
      clear hR hR'
      go_wp2_with fail
      go_roundw
      case rel => exact ⟨k + 1, by omega, by go_num, HR.out, hf.setCell (p := ⟨w.heap.size, k, none⟩) (.inr (Nat.le_refl _)) _⟩
      case measure => simp [intOf]; omega
    · obtain rfl : k = n := by omega
      have hS : Sl wr (some ⟨w.heap.size, 0, none⟩) k (List.replicate k x) := by
        have := hR.rd 0 k
        simp at this
        exact ⟨by simp, by simpa using this⟩
      have hst := run_string_sl (P := Tryd.prog) hS 22 9 5 k Tryd.underlying22 Tryd.underlying5 Tryd.underlying9
      have HF := Lib.hid hf
      generalize hs : List.replicate k x = s at *
      have HS := Lib.hid hs.symm
      clear hR hS hs
      go_wp2_with fail
      go_ret
      exact ⟨_, rfl, HS, HF.out⟩

end Go.Proofs.YtgniidnbpkhmcaaDoor
