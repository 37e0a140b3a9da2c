/- The law FnExactReset holds for every input: the call returns true, and its arguments read as before. Conditions: none beside the statement's own. -/
import Derived.Test.YtkdjapbogchaeaaDoorRows
import Derived.Test.YtkdjapbogchaeaaDoorArgs
import Derived.Test.YtkdjapbogchaeaaDoorLawW
import Derived.WalkKit
import Derived.ProofKit
import Derived.OpenShut
import Derived.ShutString
import Derived.ChangeOld
import Derived.Below
import Derived.JoinedCond
import Derived.SliceStrings
import Derived.SizedLaws
import Derived.Test.YtkdjapbogchaeaaDoorCards
import Derived.Test.YtkdjapbogchaeaaDoorTie
import Derived.Deep.DeepHandedRow
import Derived.Stop.LaidErr
import Derived.SevenTiedAt
namespace Go.Proofs.YtkdjapbogchaeaaDoor.fnExactResetCard
open Go.ChangeShapes Go.WideShapes Go.ChangeAt Go.RowKit
open Go.ChangeMaps (open_string shut_string)
set_option linter.unusedVariables false

theorem own : ownKnob Tryd.prog.godebug = none := by kernel_rfl

theorem gv0 : Tryd.prog.globalNamed "bytes.ErrTooLarge" = some 1 := by kernel_rfl
theorem gt0 : (Tryd.prog.globals[1]?).map (·.type) = some 71 := by kernel_rfl
theorem star : "*" ++ "errors.errorString" = "*errors.errorString" := by decide
theorem rowE (u : TypeId) (h : Tryd.prog.typeName? 3 u = some "*errors.errorString") : u = 102 :=
  typeName_ptr_named (nm := "errors.errorString") (by rw [star]; kernel_rfl) (by kernel_rfl) (by decide) u (by rw [star]; exact h)

set_option maxRecDepth 100000 in
theorem contract (H : Type) (enc : TypeId × Value → H) (W : World) (base : Nat) (args : Array Value) (ds gs : List (DataW H)) (before : List MemPlace)
    (hval : ∀ (j : Nat) t v, Tryd.f13.params[j]? = some t → args[j]? = some v → Value.okWide Tryd.prog W .any base t v)
    (hL : laidMetH Tryd.prog Rows.fnExactResetRow.laid W)
    (hsz : (DataW.weightsEach Tryd.prog (Tryd.f13.params.toList ++ Rows.fnExactResetSpec.plain.varTypes Tryd.prog) (ds ++ gs)).all (· ≤ reachBytes) = true)
    (hW : DataW.Whole enc Tryd.prog Tryd.f13.params.toList Rows.fnExactResetSpec.vars false W args.toList ds gs before) :
    Calls Tryd.prog 13 args W fun e W' => ∃ v, e = .returned v ∧ Rows.fnExactResetSpec.post enc Tryd.prog Tryd.f13 false true false false W args v W' := by
  have hW' := hW
  obtain ⟨p, q, hA0, hV, rfl, hfz, hnd⟩ := hW
  have hA : DataW.TrodAll enc Tryd.prog W 0 (fun _ => true) true Tryd.f13.params.toList args.toList ds p := hA0
  rw [Tryd.params13] at hA hval
  obtain ⟨v0, vs0, d0, ds0, p0, q0, hargs, rfl, rfl, h0, r0⟩ := trodAll_cons hA
  obtain ⟨v1, vs1, d1, ds1, p1, q1, rfl, rfl, rfl, h1, r1⟩ := trodAll_cons r0
  obtain ⟨v2, vs2, d2, ds2, p2, q2, rfl, rfl, rfl, h2, r2⟩ := trodAll_cons r1
  obtain ⟨rfl, rfl, rfl⟩ := trodAll_nil r2
  obtain rfl : args = #[v0, v1, v2] := by cases args; simp_all
  obtain ⟨rfl, rfl⟩ := trodVars_none hV
  have hL1 : laidMet Tryd.prog [("bytes.ErrTooLarge", Rows.laid_bytes_ErrTooLarge)] W := hL
  obtain ⟨e0, s0, ev0, ec0, et0, es0⟩ := laid_sentinel hL1 (gv0) (gt0) Tryd.underlying71 rowE Tryd.underlying102 Tryd.underlying118 rfl rfl Tryd.underlying9 (by kernel_rfl) (by kernel_rfl)
  have hE0 : W.cell? ⟨1, 0, none⟩ = some (.iface 102 (.pointer (some e0))) := World.var?_cell gv0 ev0 0
  obtain ⟨a0, rfl, rfl, rfl, w0⟩ := open_string Tryd.underlying9 (hval 0 9 v0 rfl rfl) h0
  have w0' : a0.data.toList.length ≤ 140737488351232 := sized_string hsz (j := 0) rfl rfl
  obtain ⟨a1, rfl, rfl, rfl, w1⟩ := open_int Tryd.underlying22 (hval 1 22 v1 rfl rfl) h1
  have w1' := w1
  simp [Lit.wf, IntKind.min, IntKind.max, IntKind.signed, IntKind.bits] at w1'
  obtain ⟨n1, rfl⟩ := Int.eq_ofNat_of_zero_le w1'.1
  obtain ⟨a2, rfl, rfl, rfl, w2⟩ := open_string Tryd.underlying9 (hval 2 9 v2 rfl rfl) h2
  have w2' : a2.data.toList.length ≤ 140737488351232 := sized_string hsz (j := 2) rfl rfl
  clear hA0
  have hw := FnExactReset_walk a0.data.toList n1 a2.data.toList W  w0' (by omega) w2'
  rw [str_eq a0, str_eq a2] at hw
  refine hw.mono fun e W' ⟨he, bel⟩ => ?_
  subst he
  exact ⟨_, rfl, _, _, _, [], [], [], hW', trodAll_mk1 (shut_bool Tryd.underlying4 _), (trodAll_cons_mk (shut_string Tryd.underlying9 w0) (trodAll_cons_mk (shut_int Tryd.underlying22 w1) (trodAll_cons_mk (shut_string Tryd.underlying9 w2) trodAll_mk0))), rfl, bel.frame _, fun h => by cases h⟩

set_option maxRecDepth 100000 in
/-- A world for the witness: the settled one, each listed variable holding what its initialiser lays. -/
noncomputable def laidWorld (os : Os) : World :=
  { World.holding Tryd.prog os ⟨#[.cells #[.string ⟨#[98, 121, 116, 101, 115, 46, 66, 117, 102, 102, 101, 114, 58, 32, 116, 111, 111, 32, 108, 97, 114, 103, 101]⟩] 118], #[], []⟩ with heap := ((World.holding Tryd.prog os ⟨#[.cells #[.string ⟨#[98, 121, 116, 101, 115, 46, 66, 117, 102, 102, 101, 114, 58, 32, 116, 111, 111, 32, 108, 97, 114, 103, 101]⟩] 118], #[], []⟩).heap).modify 1 fun | .cells _ t frozen => .cells #[.iface 102 (.pointer (some ⟨(World.settled Tryd.prog os).heap.size + 0, 0, none⟩))] t frozen | o => o }
theorem laid_met (os : Os) : laidMet Tryd.prog Rows.fnExactResetRow.laid ((laidWorld os).forCall (fun _ _ => 0) ⟨#[], #[.string ByteArray.empty, .int .u16 0, .string ByteArray.empty], []⟩).memory :=
  laidMet_of_run' 8 (by kernel_rfl) (by kernel_rfl)
theorem reads (os : Os) {H : Type} (enc : TypeId × Value → H) : ∃ places, DataW.whole enc Tryd.prog ((laidWorld os).forCall (fun _ _ => 0) ⟨#[], #[.string ByteArray.empty, .int .u16 0, .string ByteArray.empty], []⟩).memory Tryd.f13.params.toList Rows.fnExactResetSpec.vars false #[.string ByteArray.empty, .int .u16 0, .string ByteArray.empty].toList 8 = some ([.lit (.string []), .lit (.int .u16 0), .lit (.string [])], [], places) :=
  ⟨[], by kernel_rfl⟩

set_option maxRecDepth 100000 in
theorem lifted (os : Os) (started : os.Started) (H : Type) (enc : TypeId × Value → H) (F : Stop.Interp) :
    ReturnsInHanded {} Tryd.checked os 13 .any ((OpenSpec.ofChange Rows.fnExactResetSpec).preRow enc Tryd.prog Tryd.f13 Rows.fnExactResetRow.domain false Rows.fnExactResetRow.laid) (((OpenSpec.ofChange Rows.fnExactResetSpec).at F).post enc Tryd.prog Tryd.f13 false true false false) := by
  obtain ⟨places, hx⟩ := reads os enc
  refine returnsInHanded_of_row (C := Tryd.checked) (s := OpenSpec.ofChange Rows.fnExactResetSpec) own started (by kernel_rfl) Tryd.func13
    (witness_row_at (enc := enc) (C := Tryd.checked) false (laidWorld os) #[.string ByteArray.empty, .int .u16 0, .string ByteArray.empty] rfl (by kernel_rfl) (by kernel_rfl) (by kernel_rfl)
      (OpenSpec.preRow_of_cond 8 hx (by kernel_rfl) (fun k hk => by cases hk) (by kernel_rfl) (laid_met os))) ?_
  intro W base args ds gs before hval hW _ hcond hsz hL _ _
  exact contract H enc W base args ds gs before hval hL hsz hW

theorem said : Rows.FnExactResetSaid :=
  OpenClaim.holds_of_cond 13 Tryd.f13 rfl rfl rfl rfl rfl rfl rfl ⟨rfl, rfl, rfl, rfl, rfl⟩ rfl rfl rfl rfl rfl (by kernel_rfl) Tryd.func13 (by kernel_rfl)
    (of_decide_eq_true (by kernel_rfl)) (by unfold Func.isWrapper; rw [if_neg (by decide +kernel)]; exact ⟨rfl, rfl⟩)
    (fun os started H enc _ F => by rw [OpenClaim.pre_eq_preRow]; exact lifted os started H enc F)

theorem plain (f : FuncId) (fn : Func) (hf : Tryd.pinned.checked.prog.funcNamed Rows.fnExactResetRow.func = some f) (hfn : Tryd.pinned.checked.prog.funcs[f]? = some fn) :
    true = Tryd.pinned.checked.prog.looks [] ∧ ∀ (j : Nat) t, fn.params[j]? = some t → Tryd.pinned.checked.prog.wantsStandIn t = false := by
  obtain rfl : f = 13 := Option.some.inj ((show Tryd.prog.funcNamed Rows.fnExactResetRow.func = some 13 by kernel_rfl).symm.trans hf) |>.symm
  obtain rfl : fn = Tryd.f13 := (Option.some.inj (Tryd.func13.symm.trans hfn)).symm
  refine ⟨by kernel_rfl, fun j t ht => ?_⟩
  rw [Tryd.params13] at ht
  have hm : t = 9 ∨ t = 22 := by have := Array.mem_of_getElem? ht; simp at this; first | omega | (rcases this with h | h | h <;> (subst h; simp))
  rcases hm with rfl | rfl
  · exact (show Tryd.prog.wantsStandIn 9 = false by kernel_rfl)
  · exact (show Tryd.prog.wantsStandIn 22 = false by kernel_rfl)

theorem proved : Rows.FnExactResetCardSaid :=
  Claim7.holds_tied_plain_at .later [] _ _ _ _ said (fun _ h => by cases h) (by kernel_rfl) (fun _ h => by cases h) fnExactReset_row_tie rfl ⟨rfl, rfl⟩ (by kernel_rfl) rfl plain (by kernel_rfl)
#print axioms proved
end Go.Proofs.YtkdjapbogchaeaaDoor.fnExactResetCard
