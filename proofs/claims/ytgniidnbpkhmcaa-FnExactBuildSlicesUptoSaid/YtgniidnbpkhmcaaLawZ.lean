/- Slices of slices of bytes. -/
import Derived.Test.YtgniidnbpkhmcaaNums
import Derived.Deep.RegionWith
namespace Go.Proofs.Ytgniidnbpkhmcaa
open Go.RowKit
set_option linter.unusedVariables false
attribute [local go_sem ↓] Go.wp_at_zero Go.wp_at_succ

theorem infoSl : (Try.prog.info? 22).map (fun i => (i.zero, i.size, i.bytes)) = some (some (.slice none 0 0), 1, 24) := by kernel_rfl

/-- A slice of bytes at the head of a row of its own. -/
def SlR (W : Nat) (wr : World) (u : Value) (l : List UInt8) : Prop := ∃ x pad, u = .slice (some ⟨x, 0, none⟩) l.length (l ++ pad).length ∧ Row wr x (l ++ pad) ∧ W ≤ x
theorem SlR.sl {W : Nat} {wr : World} {u : Value} {l : List UInt8} (h : SlR W wr u l) : ∃ B m c, u = Value.slice B m c ∧ Sl wr B m l := by
  obtain ⟨x, pad, rfl, hR, _⟩ := h
  refine ⟨_, _, _, rfl, rfl, ?_⟩
  have := hR.rd 0 l.length
  simpa using this
theorem SlR.fr {S : List Nat} {W : Nat} {wr w' : World} {u : Value} {l : List UInt8} (h : SlR W wr u l) (hf : Fr S wr w') (hS : ∀ x r, Row wr x r → x ∉ S) : SlR W w' u l := by
  obtain ⟨x, pad, rfl, hR, hx⟩ := h
  exact ⟨x, pad, rfl, hR.fr hf (hS x _ hR), hx⟩

/-- 'string to bytes', for the walk. -/
theorem run_bytes_row (w : World) (l : List UInt8) (hl : l.length ≤ 9223372036854775807) :
    ∃ (pad : List UInt8) (c : Nat) (w1 : World), (convert 9 22 (.string ⟨l.toArray⟩)).run Try.prog w = .ok (.slice (some ⟨w.heap.size, 0, none⟩) l.length c) w1 ∧ Hid (c = (l ++ pad).length) ∧ Row w1 w.heap.size (l ++ pad) ∧ Fr [] w w1 := by
  have hcv := run_bytes_of_string (P := Try.prog) w 9 22 5 ⟨l.toArray⟩ Try.underlying9 Try.underlying22 Try.underlying5
  simp only [str_size] at hcv
  have h1 := grownCap_ge w l.length 0 5
  generalize grownCap w l.length 0 5 = c at *
  rw [bytesRow_eq, str_toList, str_size] at hcv
  have hlc : (l ++ List.replicate (c - l.length) (0 : UInt8)).length = c := by simp; omega
  refine ⟨List.replicate (c - l.length) 0, c, _, hcv, hlc.symm, ?_, ?_⟩
  · exact ⟨_, _, heap_alloc_new w.drew _, .inr (by rw [bvs_size]; exact Nat.le_refl _)⟩
  · exact ((Fr.refl [] w).drew).alloc _

/-- The loop of slices. -/
def SlsRel (w : World) (ls : List (List UInt8)) (v i : Value) (wr : World) : Prop :=
  ∃ k us, k ≤ ls.length ∧ i = .int .i64 (k : Int) ∧ us.length = k ∧ wr.ownsRow w.heap.size 22 1 v k us ∧ (∀ (j : Nat) (u : Value) (l : List UInt8), us[j]? = some u → ls[j]? = some l → SlR w.heap.size wr u l) ∧ (∀ u ∈ us, u.oneCell' = true) ∧ Fr [] w wr

end Go.Proofs.Ytgniidnbpkhmcaa
