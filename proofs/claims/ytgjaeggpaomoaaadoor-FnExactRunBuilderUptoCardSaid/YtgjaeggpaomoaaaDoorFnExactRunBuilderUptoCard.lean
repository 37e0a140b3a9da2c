/- The law FnExactRunBuilder holds for every input of bulk at most 1048576: the call returns true, and its arguments read as before. Conditions: none beside the statement's own. -/
import Derived.Test.YtgjaeggpaomoaaaDoorRows
import Derived.Test.YtgjaeggpaomoaaaDoorArgs
import Derived.Test.YtgjaeggpaomoaaaDoorLawAH
import Derived.WalkKit
import Derived.ProofKit
import Derived.OpenShut
import Derived.ShutString
import Derived.ChangeOld
import Derived.Below
import Derived.JoinedCond
import Derived.SliceStrings
import Derived.SizedLaws
import Derived.Test.YtgjaeggpaomoaaaDoorArgs3
import Derived.Test.YtgjaeggpaomoaaaDoorClosed
import Derived.Test.YtgjaeggpaomoaaaDoorCards
import Derived.Test.YtgjaeggpaomoaaaDoorTie
import Derived.Deep.DeepHandedRow
import Derived.Stop.LaidErr
import Derived.SevenTiedAt
namespace Go.Proofs.YtgjaeggpaomoaaaDoor.fnExactRunBuilderUptoCard
open Go.ChangeShapes Go.WideShapes Go.ChangeAt Go.RowKit
open Go.ChangeMaps (open_string shut_string)
set_option linter.unusedVariables false

theorem own : ownKnob Tryd.prog.godebug = none := by kernel_rfl
theorem laidOut : laidOutB Tryd.prog = true := by kernel_rfl

theorem gv0 : Tryd.prog.globalNamed "io.EOF" = some 1 := by kernel_rfl
theorem gt0 : (Tryd.prog.globals[1]?).map (·.type) = some 68 := by kernel_rfl
theorem star : "*" ++ "errors.errorString" = "*errors.errorString" := by decide
theorem rowE (u : TypeId) (h : Tryd.prog.typeName? 3 u = some "*errors.errorString") : u = 137 :=
  typeName_ptr_named (nm := "errors.errorString") (by rw [star]; kernel_rfl) (by kernel_rfl) (by decide) u (by rw [star]; exact h)

set_option maxRecDepth 100000 in
theorem contract (H : Type) (enc : TypeId × Value → H) (W : World) (base : Nat) (args : Array Value) (ds gs : List (DataW H)) (before : List MemPlace)
    (hval : ∀ (j : Nat) t v, Tryd.f5.params[j]? = some t → args[j]? = some v → Value.okWide Tryd.prog W .any base t v)
    (hk : Rows.uptoSmall H (ds ++ gs) = true)
    (hL : laidMetH Tryd.prog Rows.fnExactRunBuilderUptoRow.laid W)
    (hW : DataW.Whole enc Tryd.prog Tryd.f5.params.toList Rows.fnExactRunBuilderSpec.vars false W args.toList ds gs before) :
    Calls Tryd.prog 5 args W fun e W' => ∃ v, e = .returned v ∧ Rows.fnExactRunBuilderSpec.post enc Tryd.prog Tryd.f5 false true false false W args v W' := by
  have hW' := hW
  obtain ⟨p, q, hA0, hV, rfl, hfz, hnd⟩ := hW
  have hA : DataW.TrodAll enc Tryd.prog W 0 (fun _ => true) true Tryd.f5.params.toList args.toList ds p := hA0
  rw [Tryd.params5] at hA hval
  obtain ⟨v0, vs0, d0, ds0, p0, q0, hargs, rfl, rfl, h0, r0⟩ := trodAll_cons hA
  obtain ⟨rfl, rfl, rfl⟩ := trodAll_nil r0
  obtain rfl : args = #[v0] := by cases args; simp_all
  obtain ⟨rfl, rfl⟩ := trodVars_none hV
  have hbulk := of_decide_eq_true hk
  simp only [List.append_nil, Rows.uptoBulkAll] at hbulk
  have hL1 : laidMet Tryd.prog [("io.EOF", Rows.laid_io_EOF)] W := hL
  obtain ⟨e0, s0, ev0, ec0, et0, es0⟩ := laid_sentinel hL1 (gv0) (gt0) Tryd.underlying68 rowE Tryd.underlying137 Tryd.underlying139 rfl rfl Tryd.underlying9 (by kernel_rfl) (by kernel_rfl)
  have hE0 : W.cell? ⟨1, 0, none⟩ = some (.iface 137 (.pointer (some e0))) := World.var?_cell gv0 ev0 0
  obtain ⟨a0, len0, cap0, rfl⟩ := okWide_slice Tryd.underlying24 (hval 0 24 v0 rfl rfl)
  have k0 := h0
  have lt0 : ∀ x ∈ p0, x.block < W.heap.size := by obtain ⟨m, hm⟩ := k0; exact DataW.trod_lt m _ _ _ hm
  obtain ⟨l0, w0, b0⟩ : ∃ l : List OpV, (Rg W a0 len0 5 (l.flatMap OpV.cells) ∧ len0 = l.length ∧ ∀ o ∈ l, o.Ok) ∧ (tsum l + len0) + 1 ≤ Rows.uptoBulk d0 := by
    obtain ⟨fuel, hf⟩ := h0
    exact open_ops (x := (d0, p0)) (by kernel_rfl) (by kernel_rfl) (by kernel_rfl) (by kernel_rfl) (by kernel_rfl) hf
  clear hA0
  have hw := FnExactRunBuilder_walk a0 len0 cap0 l0 W  w0.1 w0.2.1 w0.2.2 (by omega)
  refine hw.mono fun e W' ⟨he, bel⟩ => ?_
  subst he
  exact ⟨_, rfl, _, _, _, [], _, [], hW', trodAll_mk1 (shut_bool Tryd.underlying4 _), (trodAll_cons_mk (Below.trod laidOut (by kernel_rfl) (of_decide_eq_true (by kernel_rfl)) k0 bel lt0) trodAll_mk0), rfl, bel.frame _, fun h => by cases h⟩

set_option maxRecDepth 100000 in
/-- A world for the witness: the settled one, each listed variable holding what its initialiser lays. -/
noncomputable def laidWorld (os : Os) : World :=
  { World.holding Tryd.prog os ⟨#[.cells #[.string ⟨#[69, 79, 70]⟩] 139], #[], []⟩ with heap := ((World.holding Tryd.prog os ⟨#[.cells #[.string ⟨#[69, 79, 70]⟩] 139], #[], []⟩).heap).modify 1 fun | .cells _ t frozen => .cells #[.iface 137 (.pointer (some ⟨(World.settled Tryd.prog os).heap.size + 0, 0, none⟩))] t frozen | o => o }
theorem laid_met (os : Os) : laidMet Tryd.prog Rows.fnExactRunBuilderUptoRow.laid ((laidWorld os).forCall (fun _ _ => 0) ⟨#[], #[.slice none 0 0], []⟩).memory :=
  laidMet_of_run' 8 (by kernel_rfl) (by kernel_rfl)
theorem reads (os : Os) {H : Type} (enc : TypeId × Value → H) : ∃ places, DataW.whole enc Tryd.prog ((laidWorld os).forCall (fun _ _ => 0) ⟨#[], #[.slice none 0 0], []⟩).memory Tryd.f5.params.toList Rows.fnExactRunBuilderSpec.vars false #[.slice none 0 0].toList 8 = some ([.nil], [], places) :=
  ⟨[], by kernel_rfl⟩

set_option maxRecDepth 100000 in
theorem lifted (os : Os) (started : os.Started) (H : Type) (enc : TypeId × Value → H) (F : Stop.Interp) :
    ReturnsInHanded {} Tryd.checked os 5 .any ((Rows.OpenSpec.upto Rows.fnExactRunBuilderSpec).preRow enc Tryd.prog Tryd.f5 Rows.fnExactRunBuilderUptoRow.domain false Rows.fnExactRunBuilderUptoRow.laid) (((Rows.OpenSpec.upto Rows.fnExactRunBuilderSpec).at F).post enc Tryd.prog Tryd.f5 false true false false) := by
  obtain ⟨places, hx⟩ := reads os enc
  refine returnsInHanded_of_row (C := Tryd.checked) (s := Rows.OpenSpec.upto Rows.fnExactRunBuilderSpec) own started (by kernel_rfl) Tryd.func5
    (witness_row_at (enc := enc) (C := Tryd.checked) false (laidWorld os) #[.slice none 0 0] rfl (by kernel_rfl) (by kernel_rfl) (by kernel_rfl)
      (OpenSpec.preRow_of_cond 8 hx (by kernel_rfl) (fun k hk => by cases hk; kernel_rfl) (by kernel_rfl) (laid_met os))) ?_
  intro W base args ds gs before hval hW _ hcond hsz hL _ _
  exact contract H enc W base args ds gs before hval (hcond _ rfl) hL hW

theorem j0 : (Rows.fnExactRunBuilderUptoRow.wf (OpenSpec.ofChange (Rows.OpenSpec.upto Rows.fnExactRunBuilderSpec).bare)) = true := by kernel_rfl
theorem j1 : (laidOutB Tryd.pinned.checked.prog) = true := by kernel_rfl
theorem j2 : (mapsRowed Tryd.pinned.checked.prog) = true := by kernel_rfl
theorem j3 : (Tryd.f5.params.all (Tryd.pinned.checked.prog.readableRec ·)) = true := by kernel_rfl
theorem j4 : (namedTie Tryd.pinned.checked.prog Rows.fnExactRunBuilderUptoRow.named (Rows.OpenSpec.upto Rows.fnExactRunBuilderSpec).bare.vars) = true := by kernel_rfl
theorem j5 : ((Rows.fnExactRunBuilderUptoRow.stops == [])) = true := by kernel_rfl
theorem j6 : ((Tryd.pinned.checked.prog.stops == [])) = true := by kernel_rfl
theorem j7 : ((Rows.fnExactRunBuilderUptoRow.knobs == [])) = true := by kernel_rfl
theorem j8 : ((Tryd.pinned.checked.prog.stopKnobs == [])) = true := by kernel_rfl
theorem j9 : ((Rows.fnExactRunBuilderUptoRow.inPlace == Tryd.pinned.checked.prog.inPlace 5)) = true := by kernel_rfl
theorem j10 : ((Rows.fnExactRunBuilderUptoRow.unfollowed == Tryd.pinned.checked.prog.unfollowed 5)) = true := by kernel_rfl
theorem j11 : ((Rows.fnExactRunBuilderUptoRow.recurses == Tryd.pinned.checked.prog.recurses 5)) = true := by kernel_rfl
theorem j12 : ((Rows.fnExactRunBuilderUptoRow.named == Tryd.pinned.checked.prog.varsNamed 5)) = true := by kernel_rfl
theorem j13 : ((Rows.fnExactRunBuilderUptoRow.maps == (Tryd.f5.params.toList ++ (Rows.OpenSpec.upto Rows.fnExactRunBuilderSpec).bare.plain.varTypes Tryd.pinned.checked.prog).any (Tryd.pinned.checked.prog.mapsRec ·))) = true := by kernel_rfl
theorem j14 : ((Rows.fnExactRunBuilderUptoRow.ifaces == (Tryd.f5.params.toList ++ (Rows.OpenSpec.upto Rows.fnExactRunBuilderSpec).bare.plain.varTypes Tryd.pinned.checked.prog).any (Tryd.pinned.checked.prog.ifacesRec ·))) = true := by kernel_rfl
theorem j15 : ((Rows.fnExactRunBuilderUptoRow.mapsOut == Tryd.pinned.checked.prog.mapsAmong Tryd.f5.resultTypes.toList)) = true := by kernel_rfl
theorem j16 : ((Rows.fnExactRunBuilderUptoRow.loops == (Tryd.f5.params.toList ++ (Rows.OpenSpec.upto Rows.fnExactRunBuilderSpec).bare.plain.varTypes Tryd.pinned.checked.prog).any (Tryd.pinned.checked.prog.loopsFrom ·))) = true := by kernel_rfl
theorem j17 : ((Rows.fnExactRunBuilderUptoRow.wideKeys == (Tryd.f5.params.toList ++ (Rows.OpenSpec.upto Rows.fnExactRunBuilderSpec).bare.plain.varTypes Tryd.pinned.checked.prog ++ Tryd.f5.resultTypes.toList).any (Tryd.pinned.checked.prog.wideKeysFrom ·))) = true := by kernel_rfl
theorem j18 : ((Rows.OpenSpec.upto Rows.fnExactRunBuilderSpec).bare.vars.all (Tryd.pinned.checked.prog.varReadable ·)) = true := by kernel_rfl
theorem j19 : (Tryd.f5.resultTypes.all (fun t => Tryd.pinned.checked.prog.readableRec t && decide (t < Tryd.pinned.checked.prog.types.size))) = true := by kernel_rfl
theorem j20 : ((Rows.fnExactRunBuilderUptoRow.ifacesOut == Tryd.f5.resultTypes.toList.any (Tryd.pinned.checked.prog.ifacesRec ·))) = true := by kernel_rfl
theorem j21 : ((Rows.fnExactRunBuilderUptoRow.loopsOut == Tryd.f5.resultTypes.toList.any (Tryd.pinned.checked.prog.loopsFrom ·))) = true := by kernel_rfl
theorem j22 : ((Rows.fnExactRunBuilderUptoRow.plainKeys == Tryd.pinned.checked.prog.plainKeys)) = true := by kernel_rfl
theorem j23 : (Rows.fnExactRunBuilderUptoRow.shortTexts.isNone) = true := by kernel_rfl
theorem j24 : (Tryd.pinned.checked.prog.stopsHeard) = true := by kernel_rfl
theorem j28 : ((Rows.fnExactRunBuilderUptoRow.kinds == (if Rows.fnExactRunBuilderUptoRow.domain.isEmpty then [] else Tryd.f5.params.toList.map fun t => match Tryd.pinned.checked.prog.underlying t with | some (.int k) => some k | _ => none))) = true := by kernel_rfl
theorem j29 : ((Rows.fnExactRunBuilderUptoRow.pinned == Rows.fnExactRunBuilderUptoRow.pinnedBy)) = true := by kernel_rfl
theorem j30 : ((Rows.fnExactRunBuilderUptoRow.veiled == (Tryd.f5.params.toList ++ (Rows.OpenSpec.upto Rows.fnExactRunBuilderSpec).bare.plain.varTypes Tryd.pinned.checked.prog ++ Tryd.f5.resultTypes.toList).any (Tryd.pinned.checked.prog.veiledRec ·))) = true := by kernel_rfl
theorem j31 : (Rows.fnExactRunBuilderUptoRow.veiledFits Tryd.pinned.checked.prog Tryd.f5.params.toList (Tryd.f5.params.toList ++ (Rows.OpenSpec.upto Rows.fnExactRunBuilderSpec).bare.plain.varTypes Tryd.pinned.checked.prog ++ Tryd.f5.resultTypes.toList)) = true := by kernel_rfl
set_option maxRecDepth 100000 in
theorem jf : joinedFacts Tryd.pinned.checked.prog 5 Tryd.f5 (Rows.OpenSpec.upto Rows.fnExactRunBuilderSpec).bare Rows.fnExactRunBuilderUptoRow = true := (and2 (and2 (and2 (and2 (and2 (and2 (and2 (and2 (and2 (and2 (and2 (and2 (and2 (and2 (and2 (and2 (and2 (and2 (and2 (and2 (and2 (and2 (and2 (and2 (and2 (and2 (and2 (and2 (and2 (and2 (and2 j0 j1) j2) j3) j4) j5) j6) j7) j8) j9) j10) j11) j12) j13) j14) j15) j16) j17) j18) j19) j20) j21) j22) j23) j24) seat_enters) seat_lifts) seat_make) j28) j29) j30) j31)
theorem said : Rows.FnExactRunBuilderUptoSaid :=
  OpenClaim.holds_of_cond 5 Tryd.f5 rfl rfl rfl rfl rfl rfl rfl ⟨rfl, rfl, rfl, rfl, rfl⟩ rfl rfl rfl rfl rfl (by kernel_rfl) Tryd.func5 jf
    (of_decide_eq_true (by kernel_rfl)) (by unfold Func.isWrapper; rw [if_neg (by decide +kernel)]; exact ⟨rfl, rfl⟩)
    (fun os started H enc _ F => by rw [OpenClaim.pre_eq_preRow]; exact lifted os started H enc F)

theorem plain (f : FuncId) (fn : Func) (hf : Tryd.pinned.checked.prog.funcNamed Rows.fnExactRunBuilderUptoRow.func = some f) (hfn : Tryd.pinned.checked.prog.funcs[f]? = some fn) :
    true = Tryd.pinned.checked.prog.looks [] ∧ ∀ (j : Nat) t, fn.params[j]? = some t → Tryd.pinned.checked.prog.wantsStandIn t = false := by
  obtain rfl : f = 5 := Option.some.inj ((show Tryd.prog.funcNamed Rows.fnExactRunBuilderUptoRow.func = some 5 by kernel_rfl).symm.trans hf) |>.symm
  obtain rfl : fn = Tryd.f5 := (Option.some.inj (Tryd.func5.symm.trans hfn)).symm
  refine ⟨by kernel_rfl, fun j t ht => ?_⟩
  rw [Tryd.params5] at ht
  have hm : t = 24 := by have := Array.mem_of_getElem? ht; simp at this; first | omega | (rcases this with h <;> (subst h; simp))
  subst hm
  exact (show Tryd.prog.wantsStandIn 24 = false by kernel_rfl)

theorem proved : Rows.FnExactRunBuilderUptoCardSaid :=
  Claim7.holds_tied_plain_at .later [] _ _ _ _ said (fun _ h => by cases h) (by kernel_rfl) (fun _ h => by cases h) fnExactRunBuilderUpto_row_tie rfl ⟨rfl, rfl⟩ (by kernel_rfl) rfl plain (by kernel_rfl)
#print axioms proved
end Go.Proofs.YtgjaeggpaomoaaaDoor.fnExactRunBuilderUptoCard
