/- The law FnExactNextChunks holds for every input of bulk at most 1048576: the call returns true, and its arguments read as before. Conditions: none beside the statement's own. -/
import Derived.Test.YtpfhpoggollblaaRows
import Derived.Test.YtpfhpoggollblaaArgs
import Derived.Test.YtpfhpoggollblaaLawC
import Derived.WalkKit
import Derived.ProofKit
import Derived.OpenShut
import Derived.ShutString
import Derived.ChangeOld
import Derived.Below
import Derived.JoinedCond
import Derived.SliceStrings
import Derived.SizedLaws
namespace Go.Proofs.Ytpfhpoggollblaa.fnExactNextChunksUpto
open Go.ChangeShapes Go.WideShapes Go.ChangeAt Go.RowKit
open Go.ChangeMaps (open_string shut_string)
set_option linter.unusedVariables false

theorem own : ownKnob Try.prog.godebug = none := by kernel_rfl
theorem laidOut : laidOutB Try.prog = true := by kernel_rfl

set_option maxRecDepth 100000 in
theorem contract (H : Type) (enc : TypeId × Value → H) (W : World) (base : Nat) (args : Array Value) (ds gs : List (DataW H)) (before : List MemPlace)
    (hval : ∀ (j : Nat) t v, Try.f9.params[j]? = some t → args[j]? = some v → Value.okWide Try.prog W .any base t v)
    (hk : Rows.uptoSmall H (ds ++ gs) = true)
    (hW : DataW.Whole enc Try.prog Try.f9.params.toList Rows.fnExactNextChunksSpec.vars false W args.toList ds gs before) :
    Calls Try.prog 9 args W fun e W' => ∃ v, e = .returned v ∧ Rows.fnExactNextChunksSpec.post enc Try.prog Try.f9 false true false false W args v W' := by
  have hW' := hW
  obtain ⟨p, q, hA0, hV, rfl, hfz, hnd⟩ := hW
  have hA : DataW.TrodAll enc Try.prog W 0 (fun _ => true) true Try.f9.params.toList args.toList ds p := hA0
  rw [Try.params9] at hA hval
  obtain ⟨v0, vs0, d0, ds0, p0, q0, hargs, rfl, rfl, h0, r0⟩ := trodAll_cons hA
  obtain ⟨v1, vs1, d1, ds1, p1, q1, rfl, rfl, rfl, h1, r1⟩ := trodAll_cons r0
  obtain ⟨rfl, rfl, rfl⟩ := trodAll_nil r1
  obtain rfl : args = #[v0, v1] := by cases args; simp_all
  obtain ⟨rfl, rfl⟩ := trodVars_none hV
  have hbulk := of_decide_eq_true hk
  simp only [List.append_nil, Rows.uptoBulkAll] at hbulk
  obtain ⟨a0, rfl, rfl, rfl, w0⟩ := open_string Try.underlying9 (hval 0 9 v0 rfl rfl) h0
  have w0' : a0.data.toList.length ≤ 9223372036854775807 := by simpa [maxLen] using w0
  have b0 : a0.data.toList.length + 1 = Rows.uptoBulk (DataW.lit (H := H) (.string a0.data.toList)) := by simp [Rows.uptoBulk]
  obtain ⟨a1, len1, cap1, rfl⟩ := okWide_slice Try.underlying38 (hval 1 38 v1 rfl rfl)
  have k1 := h1
  have lt1 : ∀ x ∈ p1, x.block < W.heap.size := by obtain ⟨m, hm⟩ := k1; exact DataW.trod_lt m _ _ _ hm
  obtain ⟨l1, w1, b1⟩ : ∃ l : List Nat, (Slv W a1 len1 (l.map fun z : Nat => Value.int .u16 (z : Int)) ∧ ∀ z ∈ l, z ≤ 65535) ∧ len1 + 1 ≤ Rows.uptoBulk d1 := by
    obtain ⟨fuel, hf⟩ := h1
    rcases open_ints Try.underlying38 Try.underlying25 (by kernel_rfl) hf with ⟨hcs, hx⟩ | ⟨x, l, c, zs, hcs, _, hl, hm, hz, hx, hcell, hwz⟩
    · simp [Value.cells] at hcs
      obtain ⟨rfl, rfl, rfl⟩ := hcs
      simp only [Prod.mk.injEq] at hx
      obtain ⟨rfl, _⟩ := hx
      exact ⟨[], ⟨⟨rfl, fun j hj => absurd hj (by simp)⟩, by simp⟩, by simp [Rows.uptoBulk]⟩
    · simp [Value.cells] at hcs
      obtain ⟨rfl, rfl, rfl⟩ := hcs
      have hz' : zs.length = cap1 := by simpa using hz
      simp only [Prod.mk.injEq] at hx
      obtain ⟨rfl, _⟩ := hx
      obtain ⟨ns, hns, hv, hb⟩ := slv_of_u16 hl hz' hcell hwz
      exact ⟨ns, ⟨hv, hb⟩, by have := bulk_slice_length (H := H) (lits .u16 (zs.take len1)) (lits .u16 (zs.drop len1)); simp only [lits, List.length_map, List.length_take] at this ⊢; omega⟩
  clear hA0
  have hw := FnExactNextChunks_walk a0.data.toList a1 len1 cap1 l1 W w0' w1.1 w1.2 (by omega)
  rw [str_eq a0] at hw
  refine hw.mono fun e W' ⟨he, bel⟩ => ?_
  subst he
  exact ⟨_, rfl, _, _, _, [], _, [], hW', trodAll_mk1 (shut_bool Try.underlying4 _), (trodAll_cons_mk (shut_string Try.underlying9 w0) (trodAll_cons_mk (Below.trod laidOut (by kernel_rfl) (of_decide_eq_true (by kernel_rfl)) k1 bel lt1) trodAll_mk0)), rfl, bel.frame _, fun h => by cases h⟩

set_option maxRecDepth 100000 in
theorem lifted (os : Os) (started : os.Started) (H : Type) (enc : TypeId × Value → H) (F : Stop.Interp) :
    ReturnsInHanded {} Try.checked os 9 .any ((Rows.OpenSpec.upto Rows.fnExactNextChunksSpec).pre6 enc Try.prog Try.f9 Rows.fnExactNextChunksUptoRow.domain false) (((Rows.OpenSpec.upto Rows.fnExactNextChunksSpec).at F).post enc Try.prog Try.f9 false true false false) := by
  refine returnsInHanded_of_cond (C := Try.checked) (s := Rows.OpenSpec.upto Rows.fnExactNextChunksSpec) (k := Rows.uptoSmall) rfl own started (by kernel_rfl) Try.func9
    (OpenSpec.witness (enc := enc) (C := Try.checked) (s := Rows.OpenSpec.upto Rows.fnExactNextChunksSpec) (k := Rows.uptoSmall) rfl false ⟨#[], #[.string ByteArray.empty, .slice none 0 0], []⟩ 8 (by kernel_rfl) (by kernel_rfl) (by kernel_rfl)
      (x := ([.lit (.string []), .nil], [], [])) (by kernel_rfl) rfl (by kernel_rfl)) ?_
  intro W base args ds gs before hval hW _ hk _
  exact contract H enc W base args ds gs before hval hk hW

theorem proved : Rows.FnExactNextChunksUptoSaid :=
  OpenClaim.holds_of_cond 9 Try.f9 rfl rfl rfl rfl rfl rfl rfl ⟨rfl, rfl, rfl, rfl, rfl⟩ rfl rfl rfl rfl rfl (by kernel_rfl) Try.func9 (by kernel_rfl)
    (of_decide_eq_true (by kernel_rfl)) (by unfold Func.isWrapper; rw [if_neg (by decide +kernel)]; exact ⟨rfl, rfl⟩)
    (fun os started H enc _ F => lifted os started H enc F)
#print axioms proved
end Go.Proofs.Ytpfhpoggollblaa.fnExactNextChunksUpto
