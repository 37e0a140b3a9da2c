/- The law FnBuilderRunes holds for every input: the call returns true, and its arguments read as before. Conditions: none beside the statement's own. -/
import Derived.Test.YtgniidnbpkhmcaaDoorRows
import Derived.Test.YtgniidnbpkhmcaaDoorArgs
import Derived.Test.YtgniidnbpkhmcaaDoorLawRR
import Derived.WalkKit
import Derived.ProofKit
import Derived.OpenShut
import Derived.ShutString
import Derived.ChangeOld
import Derived.Below
import Derived.JoinedCond
import Derived.SliceStrings
import Derived.SizedLaws
import Derived.Test.YtgniidnbpkhmcaaDoorClosed
import Derived.Test.YtgniidnbpkhmcaaDoorCards
import Derived.Test.YtgniidnbpkhmcaaDoorTie
import Derived.Deep.DeepHandedRow
import Derived.Stop.LaidErr
import Derived.SevenTiedAt
namespace Go.Proofs.YtgniidnbpkhmcaaDoor.fnBuilderRunesCard
open Go.ChangeShapes Go.WideShapes Go.ChangeAt Go.RowKit
open Go.ChangeMaps (open_string shut_string)
set_option linter.unusedVariables false

theorem own : ownKnob Tryd.prog.godebug = none := by kernel_rfl
theorem laidOut : laidOutB Tryd.prog = true := by kernel_rfl

theorem gv0 : Tryd.prog.globalNamed "bytes.ErrTooLarge" = some 0 := by kernel_rfl
theorem gt0 : (Tryd.prog.globals[0]?).map (·.type) = some 61 := by kernel_rfl
theorem star : "*" ++ "errors.errorString" = "*errors.errorString" := by decide
theorem rowE (u : TypeId) (h : Tryd.prog.typeName? 3 u = some "*errors.errorString") : u = 98 :=
  typeName_ptr_named (nm := "errors.errorString") (by rw [star]; kernel_rfl) (by kernel_rfl) (by decide) u (by rw [star]; exact h)

set_option maxRecDepth 100000 in
theorem contract (H : Type) (enc : TypeId × Value → H) (W : World) (base : Nat) (args : Array Value) (ds gs : List (DataW H)) (before : List MemPlace)
    (hval : ∀ (j : Nat) t v, Tryd.f5.params[j]? = some t → args[j]? = some v → Value.okWide Tryd.prog W .any base t v)
    (hL : laidMetH Tryd.prog Rows.fnBuilderRunesRow.laid W)
    (hW : DataW.Whole enc Tryd.prog Tryd.f5.params.toList Rows.fnBuilderRunesSpec.vars false W args.toList ds gs before) :
    Calls Tryd.prog 5 args W fun e W' => ∃ v, e = .returned v ∧ Rows.fnBuilderRunesSpec.post enc Tryd.prog Tryd.f5 false true false false W args v W' := by
  have hW' := hW
  obtain ⟨p, q, hA0, hV, rfl, hfz, hnd⟩ := hW
  have hA : DataW.TrodAll enc Tryd.prog W 0 (fun _ => true) true Tryd.f5.params.toList args.toList ds p := hA0
  rw [Tryd.params5] at hA hval
  obtain ⟨v0, vs0, d0, ds0, p0, q0, hargs, rfl, rfl, h0, r0⟩ := trodAll_cons hA
  obtain ⟨rfl, rfl, rfl⟩ := trodAll_nil r0
  obtain rfl : args = #[v0] := by cases args; simp_all
  obtain ⟨rfl, rfl⟩ := trodVars_none hV
  have hL1 : laidMet Tryd.prog [("bytes.ErrTooLarge", Rows.laid_bytes_ErrTooLarge)] W := hL
  obtain ⟨e0, s0, ev0, ec0, et0, es0⟩ := laid_sentinel hL1 (gv0) (gt0) Tryd.underlying61 rowE Tryd.underlying98 Tryd.underlying112 rfl rfl Tryd.underlying9 (by kernel_rfl) (by kernel_rfl)
  have hE0 : W.cell? ⟨0, 0, none⟩ = some (.iface 98 (.pointer (some e0))) := World.var?_cell gv0 ev0 0
  obtain ⟨a0, len0, cap0, rfl⟩ := okWide_slice Tryd.underlying22 (hval 0 22 v0 rfl rfl)
  have k0 := h0
  have lt0 : ∀ x ∈ p0, x.block < W.heap.size := by obtain ⟨m, hm⟩ := k0; exact DataW.trod_lt m _ _ _ hm
  obtain ⟨l0, w0⟩ : ∃ l, Sl W a0 len0 l := by
    obtain ⟨fuel, hf⟩ := h0
    rcases open_ints Tryd.underlying22 Tryd.underlying5 (by kernel_rfl) hf with ⟨hcs, hx⟩ | ⟨x, l, c, zs, hcs, _, hl, hm, hz, hx, hcell, hwz⟩
    · simp [Value.cells] at hcs
      obtain ⟨rfl, rfl, rfl⟩ := hcs
      exact ⟨[], ⟨rfl, Rd.nil _ _⟩⟩
    · simp [Value.cells] at hcs
      obtain ⟨rfl, rfl, rfl⟩ := hcs
      have hz' : zs.length = cap0 := by simpa using hz
      exact ⟨_, sl_of_ints hl hz' hcell hwz⟩
  clear hA0
  have hw := FnBuilderRunes_walk a0 len0 cap0 l0 W  w0
  refine hw.mono fun e W' ⟨he, bel⟩ => ?_
  subst he
  exact ⟨_, rfl, _, _, _, [], _, [], hW', trodAll_mk1 (shut_bool Tryd.underlying4 _), (trodAll_cons_mk (Below.trod laidOut (by kernel_rfl) (of_decide_eq_true (by kernel_rfl)) k0 bel lt0) trodAll_mk0), rfl, bel.frame _, fun h => by cases h⟩

set_option maxRecDepth 100000 in
/-- A world for the witness: the settled one, each listed variable holding what its initialiser lays. -/
noncomputable def laidWorld (os : Os) : World :=
  { World.holding Tryd.prog os ⟨#[.cells #[.string ⟨#[98, 121, 116, 101, 115, 46, 66, 117, 102, 102, 101, 114, 58, 32, 116, 111, 111, 32, 108, 97, 114, 103, 101]⟩] 112], #[], []⟩ with heap := ((World.holding Tryd.prog os ⟨#[.cells #[.string ⟨#[98, 121, 116, 101, 115, 46, 66, 117, 102, 102, 101, 114, 58, 32, 116, 111, 111, 32, 108, 97, 114, 103, 101]⟩] 112], #[], []⟩).heap).modify 0 fun | .cells _ t frozen => .cells #[.iface 98 (.pointer (some ⟨(World.settled Tryd.prog os).heap.size + 0, 0, none⟩))] t frozen | o => o }
theorem laid_met (os : Os) : laidMet Tryd.prog Rows.fnBuilderRunesRow.laid ((laidWorld os).forCall (fun _ _ => 0) ⟨#[], #[.slice none 0 0], []⟩).memory :=
  laidMet_of_run' 8 (by kernel_rfl) (by kernel_rfl)
theorem reads (os : Os) {H : Type} (enc : TypeId × Value → H) : ∃ places, DataW.whole enc Tryd.prog ((laidWorld os).forCall (fun _ _ => 0) ⟨#[], #[.slice none 0 0], []⟩).memory Tryd.f5.params.toList Rows.fnBuilderRunesSpec.vars false #[.slice none 0 0].toList 8 = some ([.nil], [], places) :=
  ⟨[], by kernel_rfl⟩

set_option maxRecDepth 100000 in
theorem lifted (os : Os) (started : os.Started) (H : Type) (enc : TypeId × Value → H) (F : Stop.Interp) :
    ReturnsInHanded {} Tryd.checked os 5 .any ((OpenSpec.ofChange Rows.fnBuilderRunesSpec).preRow enc Tryd.prog Tryd.f5 Rows.fnBuilderRunesRow.domain false Rows.fnBuilderRunesRow.laid) (((OpenSpec.ofChange Rows.fnBuilderRunesSpec).at F).post enc Tryd.prog Tryd.f5 false true false false) := by
  obtain ⟨places, hx⟩ := reads os enc
  refine returnsInHanded_of_row (C := Tryd.checked) (s := OpenSpec.ofChange Rows.fnBuilderRunesSpec) own started (by kernel_rfl) Tryd.func5
    (witness_row_at (enc := enc) (C := Tryd.checked) false (laidWorld os) #[.slice none 0 0] rfl (by kernel_rfl) (by kernel_rfl) (by kernel_rfl)
      (OpenSpec.preRow_of_cond 8 hx (by kernel_rfl) (fun k hk => by cases hk) (by kernel_rfl) (laid_met os))) ?_
  intro W base args ds gs before hval hW _ hcond hsz hL _ _
  exact contract H enc W base args ds gs before hval hL hW

theorem j0 : (Rows.fnBuilderRunesRow.wf (OpenSpec.ofChange (OpenSpec.ofChange Rows.fnBuilderRunesSpec).bare)) = true := by kernel_rfl
theorem j1 : (laidOutB Tryd.pinned.checked.prog) = true := by kernel_rfl
theorem j2 : (mapsRowed Tryd.pinned.checked.prog) = true := by kernel_rfl
theorem j3 : (Tryd.f5.params.all (Tryd.pinned.checked.prog.readableRec ·)) = true := by kernel_rfl
theorem j4 : (namedTie Tryd.pinned.checked.prog Rows.fnBuilderRunesRow.named (OpenSpec.ofChange Rows.fnBuilderRunesSpec).bare.vars) = true := by kernel_rfl
theorem j5 : ((Rows.fnBuilderRunesRow.stops == [])) = true := by kernel_rfl
theorem j6 : ((Tryd.pinned.checked.prog.stops == [])) = true := by kernel_rfl
theorem j7 : ((Rows.fnBuilderRunesRow.knobs == [])) = true := by kernel_rfl
theorem j8 : ((Tryd.pinned.checked.prog.stopKnobs == [])) = true := by kernel_rfl
theorem j9 : ((Rows.fnBuilderRunesRow.inPlace == Tryd.pinned.checked.prog.inPlace 5)) = true := by kernel_rfl
theorem j10 : ((Rows.fnBuilderRunesRow.unfollowed == Tryd.pinned.checked.prog.unfollowed 5)) = true := by kernel_rfl
theorem j11 : ((Rows.fnBuilderRunesRow.recurses == Tryd.pinned.checked.prog.recurses 5)) = true := by kernel_rfl
theorem j12 : ((Rows.fnBuilderRunesRow.named == Tryd.pinned.checked.prog.varsNamed 5)) = true := by kernel_rfl
theorem j13 : ((Rows.fnBuilderRunesRow.maps == (Tryd.f5.params.toList ++ (OpenSpec.ofChange Rows.fnBuilderRunesSpec).bare.plain.varTypes Tryd.pinned.checked.prog).any (Tryd.pinned.checked.prog.mapsRec ·))) = true := by kernel_rfl
theorem j14 : ((Rows.fnBuilderRunesRow.ifaces == (Tryd.f5.params.toList ++ (OpenSpec.ofChange Rows.fnBuilderRunesSpec).bare.plain.varTypes Tryd.pinned.checked.prog).any (Tryd.pinned.checked.prog.ifacesRec ·))) = true := by kernel_rfl
theorem j15 : ((Rows.fnBuilderRunesRow.mapsOut == Tryd.pinned.checked.prog.mapsAmong Tryd.f5.resultTypes.toList)) = true := by kernel_rfl
theorem j16 : ((Rows.fnBuilderRunesRow.loops == (Tryd.f5.params.toList ++ (OpenSpec.ofChange Rows.fnBuilderRunesSpec).bare.plain.varTypes Tryd.pinned.checked.prog).any (Tryd.pinned.checked.prog.loopsFrom ·))) = true := by kernel_rfl
theorem j17 : ((Rows.fnBuilderRunesRow.wideKeys == (Tryd.f5.params.toList ++ (OpenSpec.ofChange Rows.fnBuilderRunesSpec).bare.plain.varTypes Tryd.pinned.checked.prog ++ Tryd.f5.resultTypes.toList).any (Tryd.pinned.checked.prog.wideKeysFrom ·))) = true := by kernel_rfl
theorem j18 : ((OpenSpec.ofChange Rows.fnBuilderRunesSpec).bare.vars.all (Tryd.pinned.checked.prog.varReadable ·)) = true := by kernel_rfl
theorem j19 : (Tryd.f5.resultTypes.all (fun t => Tryd.pinned.checked.prog.readableRec t && decide (t < Tryd.pinned.checked.prog.types.size))) = true := by kernel_rfl
theorem j20 : ((Rows.fnBuilderRunesRow.ifacesOut == Tryd.f5.resultTypes.toList.any (Tryd.pinned.checked.prog.ifacesRec ·))) = true := by kernel_rfl
theorem j21 : ((Rows.fnBuilderRunesRow.loopsOut == Tryd.f5.resultTypes.toList.any (Tryd.pinned.checked.prog.loopsFrom ·))) = true := by kernel_rfl
theorem j22 : ((Rows.fnBuilderRunesRow.plainKeys == Tryd.pinned.checked.prog.plainKeys)) = true := by kernel_rfl
theorem j23 : (Rows.fnBuilderRunesRow.shortTexts.isNone) = true := by kernel_rfl
theorem j24 : (Tryd.pinned.checked.prog.stopsHeard) = true := by kernel_rfl
theorem j28 : ((Rows.fnBuilderRunesRow.kinds == (if Rows.fnBuilderRunesRow.domain.isEmpty then [] else Tryd.f5.params.toList.map fun t => match Tryd.pinned.checked.prog.underlying t with | some (.int k) => some k | _ => none))) = true := by kernel_rfl
theorem j29 : ((Rows.fnBuilderRunesRow.pinned == Rows.fnBuilderRunesRow.pinnedBy)) = true := by kernel_rfl
theorem j30 : ((Rows.fnBuilderRunesRow.veiled == (Tryd.f5.params.toList ++ (OpenSpec.ofChange Rows.fnBuilderRunesSpec).bare.plain.varTypes Tryd.pinned.checked.prog ++ Tryd.f5.resultTypes.toList).any (Tryd.pinned.checked.prog.veiledRec ·))) = true := by kernel_rfl
theorem j31 : (Rows.fnBuilderRunesRow.veiledFits Tryd.pinned.checked.prog Tryd.f5.params.toList (Tryd.f5.params.toList ++ (OpenSpec.ofChange Rows.fnBuilderRunesSpec).bare.plain.varTypes Tryd.pinned.checked.prog ++ Tryd.f5.resultTypes.toList)) = true := by kernel_rfl
set_option maxRecDepth 100000 in
theorem jf : joinedFacts Tryd.pinned.checked.prog 5 Tryd.f5 (OpenSpec.ofChange Rows.fnBuilderRunesSpec).bare Rows.fnBuilderRunesRow = true := (and2 (and2 (and2 (and2 (and2 (and2 (and2 (and2 (and2 (and2 (and2 (and2 (and2 (and2 (and2 (and2 (and2 (and2 (and2 (and2 (and2 (and2 (and2 (and2 (and2 (and2 (and2 (and2 (and2 (and2 (and2 j0 j1) j2) j3) j4) j5) j6) j7) j8) j9) j10) j11) j12) j13) j14) j15) j16) j17) j18) j19) j20) j21) j22) j23) j24) seat_enters) seat_lifts) seat_make) j28) j29) j30) j31)
theorem said : Rows.FnBuilderRunesSaid :=
  OpenClaim.holds_of_cond 5 Tryd.f5 rfl rfl rfl rfl rfl rfl rfl ⟨rfl, rfl, rfl, rfl, rfl⟩ rfl rfl rfl rfl rfl (by kernel_rfl) Tryd.func5 jf
    (of_decide_eq_true (by kernel_rfl)) (by unfold Func.isWrapper; rw [if_neg (by decide +kernel)]; exact ⟨rfl, rfl⟩)
    (fun os started H enc _ F => by rw [OpenClaim.pre_eq_preRow]; exact lifted os started H enc F)

theorem plain (f : FuncId) (fn : Func) (hf : Tryd.pinned.checked.prog.funcNamed Rows.fnBuilderRunesRow.func = some f) (hfn : Tryd.pinned.checked.prog.funcs[f]? = some fn) :
    false = Tryd.pinned.checked.prog.looks [] ∧ ∀ (j : Nat) t, fn.params[j]? = some t → Tryd.pinned.checked.prog.wantsStandIn t = false := by
  obtain rfl : f = 5 := Option.some.inj ((show Tryd.prog.funcNamed Rows.fnBuilderRunesRow.func = some 5 by kernel_rfl).symm.trans hf) |>.symm
  obtain rfl : fn = Tryd.f5 := (Option.some.inj (Tryd.func5.symm.trans hfn)).symm
  refine ⟨by kernel_rfl, fun j t ht => ?_⟩
  rw [Tryd.params5] at ht
  have hm : t = 22 := by have := Array.mem_of_getElem? ht; simp at this; first | omega | (rcases this with h <;> (subst h; simp))
  subst hm
  exact (show Tryd.prog.wantsStandIn 22 = false by kernel_rfl)

theorem proved : Rows.FnBuilderRunesCardSaid :=
  Claim7.holds_tied_plain_at .later [] _ _ _ _ said (fun _ h => by cases h) (by kernel_rfl) (fun _ h => by cases h) fnBuilderRunes_row_tie rfl ⟨rfl, rfl⟩ (by kernel_rfl) rfl plain (by kernel_rfl)
#print axioms proved
end Go.Proofs.YtgniidnbpkhmcaaDoor.fnBuilderRunesCard
