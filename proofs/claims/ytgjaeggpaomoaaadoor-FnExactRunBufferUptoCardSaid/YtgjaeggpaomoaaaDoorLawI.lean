/- Reading lines: the functions and the reference. -/
import Derived.Test.YtgjaeggpaomoaaaDoorLawG
namespace Go.Proofs.YtgjaeggpaomoaaaDoor
open Go.RowKit
set_option linter.unusedVariables false
attribute [local go_sem ↓] Go.wp_at_zero Go.wp_at_succ

/-- What is left before the k-th line. -/
def left (l : List UInt8) (cs : List UInt8) : Nat → List UInt8
  | 0 => l
  | k + 1 => match cs[k]? with
    | some x => rest (left l cs k) x
    | none => left l cs k
theorem left_succ (l cs : List UInt8) (k : Nat) (x : UInt8) (h : cs[k]? = some x) : left l cs (k + 1) = rest (left l cs k) x := by rw [left, h]
theorem left_length (l cs : List UInt8) : ∀ k, (left l cs k).length ≤ l.length
  | 0 => Nat.le_refl _
  | k + 1 => by
    have := left_length l cs k
    rw [left]
    split
    · simp [rest]; omega
    · exact this
/-- The k-th line. -/
def readl (l cs : List UInt8) (k : Nat) : List UInt8 × Bool := (line (left l cs k) (cs.getD k 0), misses (left l cs k) (cs.getD k 0))
theorem readl_eq (l cs : List UInt8) (k : Nat) (x : UInt8) (h : cs[k]? = some x) : readl l cs k = (line (left l cs k) x, misses (left l cs k) x) := by
  obtain ⟨hk, rfl⟩ := List.getElem?_eq_some_iff.1 h
  simp [readl, List.getD, hk]

theorem Sl.at_ {w : World} {A : Option Addr} {n : Nat} {l : List UInt8} (h : Sl w A n l) {k : Nat} (hk : k < n) : ∃ ad x, A = some ad ∧ l[k]? = some x ∧ w.cell? (ad.add k) = some (.int .u8 (x.toNat : Int)) := by
  have hl : k < l.length := by have := h.1; omega
  obtain ⟨ad, e, hc⟩ := h.2 k hl
  exact ⟨ad, l[k], e, by simp [hl], hc⟩
theorem Sl.fr_old {S : List Nat} {w w' : World} {A : Option Addr} {n : Nat} {l : List UInt8} (h : Sl w A n l) (hf : Fr S w w') (hn : ∀ k ∈ S, w.heap.size ≤ k) : Sl w' A n l :=
  h.fr' hf (fun h0 ad e hs => by have := hn _ hs; have := h.old h0 ad e; omega)

/-- []byte(s). -/
theorem run_bytes_of (l : List UInt8) (W : World) (hl : l.length ≤ 9223372036854775807) : ∃ A m c W', (convert 9 22 (.string ⟨l.toArray⟩)).run Tryd.prog W = .ok (.slice A m c) W' ∧ Sl W' A m l ∧ Fr [] W W' := by
  have h := run_bytes_of_string (P := Tryd.prog) W 9 22 5 ⟨l.toArray⟩ Tryd.underlying9 Tryd.underlying22 Tryd.underlying5
  simp only [str_size] at h
  refine ⟨_, _, _, _, h, ⟨rfl, ?_⟩, ((Fr.refl [] W).drew).alloc _⟩
  have h1 := grownCap_ge W l.length 0 5
  have h2 := grownCap_le_maxLen W l.length 0 5 hl
  generalize grownCap W l.length 0 5 = c at *
  rw [bytesRow_eq, str_toList, str_size]
  intro j hj
  refine ⟨_, rfl, ?_⟩
  rw [add_at, show (⟨W.heap.size, 0 + j, none⟩ : Addr) = ⟨W.drew.heap.size, 0 + j, none⟩ from rfl, cell_of_row _ _ _ _ _ _ (heap_alloc_new W.drew _), bvs_get, List.getElem?_append_left (by omega), Nat.zero_add, List.getElem?_eq_getElem hj]
  rfl

/-- spec.Index. -/
theorem spec_Index (l : List UInt8) (x : UInt8) (w : World) (hl : l.length ≤ 9223372036854775807) :
    Calls Tryd.prog 86 #[.string ⟨l.toArray⟩, .int .u8 (x.toNat : Int)] w fun e w' => e = .returned (.int .i64 (idxI l x)) ∧ w = w' := by
  go_enter Tryd.func86, Tryd.ntmps86
  go_wp2_with fail
  go_loop [5] (fun i => ∃ k : Nat, k ≤ l.idxOf x ∧ k ≤ l.length ∧ i = .int .i64 (k : Int)) (fun i => l.length - (intOf i).toNat)
  case atStart => exact ⟨0, Nat.zero_le _, Nat.zero_le _, rfl⟩
  case round =>
    obtain ⟨k, hki, hkl, rfl⟩ := hrel
    by_cases hlt : k < l.length
    · have hsz : k < (⟨l.toArray⟩ : ByteArray).size := by rw [str_size]; exact hlt
      have hget : (⟨l.toArray⟩ : ByteArray)[k] = l[k] := rfl
      by_cases heq : l[k] = x
      · have hi : idxI l x = k := by
          have hle : ¬ k < l.idxOf x := fun h => by
            have := List.not_of_lt_findIdx h
            simp [heq] at this
          rw [idxI_some (by omega)]
          omega
        have hx : ((((⟨l.toArray⟩ : ByteArray)[k]).toNat : Int) == (x.toNat : Int)) = true := by simp [hget, heq]
        have HI := Lib.hid hi
        clear hi heq hget
        go_wp2_with fail
        go_ret
        exact ⟨by rw [HI.out]; rfl, rfl⟩
      · have hx : ((((⟨l.toArray⟩ : ByteArray)[k]).toNat : Int) == (x.toNat : Int)) = false := by
          rw [hget]
          simp only [beq_eq_false_iff_ne, ne_eq]
          intro h
          exact heq (UInt8.toNat_inj.1 (by omega))
        have HH := Lib.hid heq
        clear hget heq
        go_wp2_with fail
        go_round
        case rel =>
          refine ⟨k + 1, ?_, by omega, by go_num⟩
          have : l.idxOf x ≠ k := by
            intro h
            have hlt' : l.idxOf x < l.length := by omega
            have := List.getElem_idxOf hlt'
            simp only [h] at this
            exact HH.out this
          omega
        case measure => simp [intOf]; omega
    · go_wp2_with fail
      go_ret
      exact ⟨by rw [idxI_none (by omega)]; rfl, rfl⟩

end Go.Proofs.YtgjaeggpaomoaaaDoor
