/- The law FnExactGrowAndBuild holds for every input of bulk at most 1048576: the call returns true, and its arguments read as before. Conditions: none beside the statement's own. -/
import Derived.Test.YtgniidnbpkhmcaaRows
import Derived.Test.YtgniidnbpkhmcaaArgs
import Derived.Test.YtgniidnbpkhmcaaLawS
import Derived.WalkKit
import Derived.ProofKit
import Derived.OpenShut
import Derived.ShutString
import Derived.ChangeOld
import Derived.Below
import Derived.JoinedCond
import Derived.SliceStrings
import Derived.SizedLaws
namespace Go.Proofs.Ytgniidnbpkhmcaa.fnExactGrowAndBuildUpto
open Go.ChangeShapes Go.WideShapes Go.ChangeAt Go.RowKit
open Go.ChangeMaps (open_string shut_string)
set_option linter.unusedVariables false

theorem own : ownKnob Try.prog.godebug = none := by kernel_rfl

set_option maxRecDepth 100000 in
theorem contract (H : Type) (enc : TypeId × Value → H) (W : World) (base : Nat) (args : Array Value) (ds gs : List (DataW H)) (before : List MemPlace)
    (hval : ∀ (j : Nat) t v, Try.f8.params[j]? = some t → args[j]? = some v → Value.okWide Try.prog W .any base t v)
    (hk : Rows.uptoSmall H (ds ++ gs) = true)
    (hW : DataW.Whole enc Try.prog Try.f8.params.toList Rows.fnExactGrowAndBuildSpec.vars false W args.toList ds gs before) :
    Calls Try.prog 8 args W fun e W' => ∃ v, e = .returned v ∧ Rows.fnExactGrowAndBuildSpec.post enc Try.prog Try.f8 false true false false W args v W' := by
  have hW' := hW
  obtain ⟨p, q, hA0, hV, rfl, hfz, hnd⟩ := hW
  have hA : DataW.TrodAll enc Try.prog W 0 (fun _ => true) true Try.f8.params.toList args.toList ds p := hA0
  rw [Try.params8] at hA hval
  obtain ⟨v0, vs0, d0, ds0, p0, q0, hargs, rfl, rfl, h0, r0⟩ := trodAll_cons hA
  obtain ⟨v1, vs1, d1, ds1, p1, q1, rfl, rfl, rfl, h1, r1⟩ := trodAll_cons r0
  obtain ⟨v2, vs2, d2, ds2, p2, q2, rfl, rfl, rfl, h2, r2⟩ := trodAll_cons r1
  obtain ⟨rfl, rfl, rfl⟩ := trodAll_nil r2
  obtain rfl : args = #[v0, v1, v2] := by cases args; simp_all
  obtain ⟨rfl, rfl⟩ := trodVars_none hV
  have hbulk := of_decide_eq_true hk
  simp only [List.append_nil, Rows.uptoBulkAll] at hbulk
  obtain ⟨a0, rfl, rfl, rfl, w0⟩ := open_string Try.underlying9 (hval 0 9 v0 rfl rfl) h0
  have w0' : a0.data.toList.length ≤ 9223372036854775807 := by simpa [maxLen] using w0
  have b0 : a0.data.toList.length + 1 = Rows.uptoBulk (DataW.lit (H := H) (.string a0.data.toList)) := by simp [Rows.uptoBulk]
  obtain ⟨a1, rfl, rfl, rfl, w1⟩ := open_int Try.underlying42 (hval 1 42 v1 rfl rfl) h1
  have w1' := w1
  simp [Lit.wf, IntKind.min, IntKind.max, IntKind.signed, IntKind.bits] at w1'
  obtain ⟨n1, rfl⟩ := Int.eq_ofNat_of_zero_le w1'.1
  obtain ⟨a2, rfl, rfl, rfl, w2⟩ := open_int Try.underlying5 (hval 2 5 v2 rfl rfl) h2
  have w2' := w2
  simp [Lit.wf, IntKind.min, IntKind.max, IntKind.signed, IntKind.bits] at w2'
  obtain ⟨n2, rfl⟩ : ∃ c : UInt8, a2 = (c.toNat : Int) := ⟨UInt8.ofNat a2.toNat, by simp; omega⟩
  clear hA0
  have hw := FnExactGrowAndBuild_walk a0.data.toList n1 n2 W  w0' (by omega) (by omega)
  rw [str_eq a0] at hw
  refine hw.mono fun e W' ⟨he, bel⟩ => ?_
  subst he
  exact ⟨_, rfl, _, _, _, [], [], [], hW', trodAll_mk1 (shut_bool Try.underlying4 _), (trodAll_cons_mk (shut_string Try.underlying9 w0) (trodAll_cons_mk (shut_int Try.underlying42 w1) (trodAll_cons_mk (shut_int Try.underlying5 w2) trodAll_mk0))), rfl, bel.frame _, fun h => by cases h⟩

set_option maxRecDepth 100000 in
theorem lifted (os : Os) (started : os.Started) (H : Type) (enc : TypeId × Value → H) (F : Stop.Interp) :
    ReturnsInHanded {} Try.checked os 8 .any ((Rows.OpenSpec.upto Rows.fnExactGrowAndBuildSpec).pre6 enc Try.prog Try.f8 Rows.fnExactGrowAndBuildUptoRow.domain false) (((Rows.OpenSpec.upto Rows.fnExactGrowAndBuildSpec).at F).post enc Try.prog Try.f8 false true false false) := by
  refine returnsInHanded_of_cond (C := Try.checked) (s := Rows.OpenSpec.upto Rows.fnExactGrowAndBuildSpec) (k := Rows.uptoSmall) rfl own started (by kernel_rfl) Try.func8
    (OpenSpec.witness (enc := enc) (C := Try.checked) (s := Rows.OpenSpec.upto Rows.fnExactGrowAndBuildSpec) (k := Rows.uptoSmall) rfl false ⟨#[], #[.string ByteArray.empty, .int .u16 0, .int .u8 0], []⟩ 8 (by kernel_rfl) (by kernel_rfl) (by kernel_rfl)
      (x := ([.lit (.string []), .lit (.int .u16 0), .lit (.int .u8 0)], [], [])) (by kernel_rfl) rfl (by kernel_rfl)) ?_
  intro W base args ds gs before hval hW _ hk _
  exact contract H enc W base args ds gs before hval hk hW

theorem proved : Rows.FnExactGrowAndBuildUptoSaid :=
  OpenClaim.holds_of_cond 8 Try.f8 rfl rfl rfl rfl rfl rfl rfl ⟨rfl, rfl, rfl, rfl, rfl⟩ rfl rfl rfl rfl rfl (by kernel_rfl) Try.func8 (by kernel_rfl)
    (of_decide_eq_true (by kernel_rfl)) (by unfold Func.isWrapper; rw [if_neg (by decide +kernel)]; exact ⟨rfl, rfl⟩)
    (fun os started H enc _ F => lifted os started H enc F)
#print axioms proved
end Go.Proofs.Ytgniidnbpkhmcaa.fnExactGrowAndBuildUpto
