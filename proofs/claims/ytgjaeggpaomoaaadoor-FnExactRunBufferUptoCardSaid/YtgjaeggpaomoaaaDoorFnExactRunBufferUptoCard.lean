/- The law FnExactRunBuffer holds for every input of bulk at most 1048576: the call returns true, and its arguments read as before. Conditions: none beside the statement's own. -/
import Derived.Test.YtgjaeggpaomoaaaDoorRows
import Derived.Test.YtgjaeggpaomoaaaDoorArgs
import Derived.Test.YtgjaeggpaomoaaaDoorLawAI
import Derived.WalkKit
import Derived.ProofKit
import Derived.OpenShut
import Derived.ShutString
import Derived.ChangeOld
import Derived.Below
import Derived.JoinedCond
import Derived.SliceStrings
import Derived.SizedLaws
import Derived.Test.YtgjaeggpaomoaaaDoorArgs3
import Derived.Test.YtgjaeggpaomoaaaDoorLaid
import Derived.Test.YtgjaeggpaomoaaaDoorClosed
import Derived.Test.YtgjaeggpaomoaaaDoorCards
import Derived.Test.YtgjaeggpaomoaaaDoorTie
import Derived.Deep.DeepHandedRow
import Derived.Stop.LaidErr
import Derived.SevenTiedAt
namespace Go.Proofs.YtgjaeggpaomoaaaDoor.fnExactRunBufferUptoCard
open Go.ChangeShapes Go.WideShapes Go.ChangeAt Go.RowKit
open Go.ChangeMaps (open_string shut_string)
set_option linter.unusedVariables false

theorem own : ownKnob Tryd.prog.godebug = none := by kernel_rfl
theorem laidOut : laidOutB Tryd.prog = true := by kernel_rfl

theorem gv0 : Tryd.prog.globalNamed "io.EOF" = some 1 := by kernel_rfl
theorem gt0 : (Tryd.prog.globals[1]?).map (·.type) = some 68 := by kernel_rfl
theorem gv1 : Tryd.prog.globalNamed "bytes.ErrTooLarge" = some 3 := by kernel_rfl
theorem gt1 : (Tryd.prog.globals[3]?).map (·.type) = some 68 := by kernel_rfl
theorem gv2 : Tryd.prog.globalNamed "bytes.errUnreadByte" = some 2 := by kernel_rfl
theorem gt2 : (Tryd.prog.globals[2]?).map (·.type) = some 68 := by kernel_rfl
theorem star : "*" ++ "errors.errorString" = "*errors.errorString" := by decide
theorem rowE (u : TypeId) (h : Tryd.prog.typeName? 3 u = some "*errors.errorString") : u = 137 :=
  typeName_ptr_named (nm := "errors.errorString") (by rw [star]; kernel_rfl) (by kernel_rfl) (by decide) u (by rw [star]; exact h)

set_option maxRecDepth 100000 in
theorem contract (H : Type) (enc : TypeId × Value → H) (W : World) (base : Nat) (args : Array Value) (ds gs : List (DataW H)) (before : List MemPlace)
    (hval : ∀ (j : Nat) t v, Tryd.f7.params[j]? = some t → args[j]? = some v → Value.okWide Tryd.prog W .any base t v)
    (hk : Rows.uptoSmall H (ds ++ gs) = true)
    (hL : laidMetH Tryd.prog Rows.fnExactRunBufferUptoRow.laid W)
    (hW : DataW.Whole enc Tryd.prog Tryd.f7.params.toList Rows.fnExactRunBufferSpec.vars false W args.toList ds gs before) :
    Calls Tryd.prog 7 args W fun e W' => ∃ v, e = .returned v ∧ Rows.fnExactRunBufferSpec.post enc Tryd.prog Tryd.f7 false true false false W args v W' := by
  have hW' := hW
  obtain ⟨p, q, hA0, hV, rfl, hfz, hnd⟩ := hW
  have hA : DataW.TrodAll enc Tryd.prog W 0 (fun _ => true) true Tryd.f7.params.toList args.toList ds p := hA0
  rw [Tryd.params7] at hA hval
  obtain ⟨v0, vs0, d0, ds0, p0, q0, hargs, rfl, rfl, h0, r0⟩ := trodAll_cons hA
  obtain ⟨v1, vs1, d1, ds1, p1, q1, rfl, rfl, rfl, h1, r1⟩ := trodAll_cons r0
  obtain ⟨rfl, rfl, rfl⟩ := trodAll_nil r1
  obtain rfl : args = #[v0, v1] := by cases args; simp_all
  obtain ⟨rfl, rfl⟩ := trodVars_none hV
  have hbulk := of_decide_eq_true hk
  simp only [List.append_nil, Rows.uptoBulkAll] at hbulk
  have hL0 : laidMet Tryd.prog Rows.fnExactRunBufferUptoRow.laid W := hL
  have hT : Tabs W := tabs_of_laid (d := Rows.laid_unicode_utf8_acceptRanges) hL0 (.tail _ (.tail _ (.tail _ (.tail _ (.head _))))) (.head _) (by kernel_rfl) (utf8Tabs_of_readsT typesU8 extraU8)
  have hL1 := laidMet.tail hL0
  have hL2 := laidMet.tail hL1
  have hL3 := laidMet.tail hL2
  have hL4 := laidMet.tail hL3
  obtain ⟨e0, e1, s0, s1, q0, q1, r0, r1, ev0, ev1, ec0, _, _, ec1, _, _, ene, eb0, eb1⟩ := laid_sentinels2 (laidMet_drop2 hL1) gv0 gt0 gv2 gt2 Tryd.underlying68 rowE Tryd.underlying137 Tryd.underlying139 rfl rfl Tryd.underlying9 (by kernel_rfl) (by kernel_rfl)
  have hE0 : Eof W e0 := World.var?_cell gv0 ev0 0
  have hE1 : Unr W e1 := World.var?_cell gv2 ev1 0
  have hV : Env W.heap.size W e0 e1 := ⟨hT, hE0, hE1, Ne.symm ene, ⟨q0, r0, eb0⟩, ⟨q1, r1, eb1⟩, hE0.lt, hE1.lt, hT.lt.1, hT.lt.2, heap_lt eb0, heap_lt eb1⟩
  obtain ⟨a0, rfl, rfl, rfl, w0⟩ := open_string Tryd.underlying9 (hval 0 9 v0 rfl rfl) h0
  have w0' : a0.data.toList.length ≤ 9223372036854775807 := by simpa [maxLen] using w0
  have b0 : a0.data.toList.length + 1 = Rows.uptoBulk (DataW.lit (H := H) (.string a0.data.toList)) := by simp [Rows.uptoBulk]
  obtain ⟨a1, len1, cap1, rfl⟩ := okWide_slice Tryd.underlying24 (hval 1 24 v1 rfl rfl)
  have k1 := h1
  have lt1 : ∀ x ∈ p1, x.block < W.heap.size := by obtain ⟨m, hm⟩ := k1; exact DataW.trod_lt m _ _ _ hm
  obtain ⟨l1, w1, b1⟩ : ∃ l : List OpV, (Rg W a1 len1 5 (l.flatMap OpV.cells) ∧ len1 = l.length ∧ ∀ o ∈ l, o.Ok) ∧ (tsum l + len1) + 1 ≤ Rows.uptoBulk d1 := by
    obtain ⟨fuel, hf⟩ := h1
    exact open_ops (x := (d1, p1)) (by kernel_rfl) (by kernel_rfl) (by kernel_rfl) (by kernel_rfl) (by kernel_rfl) hf
  clear hA0
  have hw := FnExactRunBuffer_walk a0.data.toList a1 len1 cap1 l1 W e0 e1 hV w0' w1.1 w1.2.1 w1.2.2 (by omega)
  rw [str_eq a0] at hw
  refine hw.mono fun e W' ⟨he, bel⟩ => ?_
  subst he
  exact ⟨_, rfl, _, _, _, [], _, [], hW', trodAll_mk1 (shut_bool Tryd.underlying4 _), (trodAll_cons_mk (shut_string Tryd.underlying9 w0) (trodAll_cons_mk (Below.trod laidOut (by kernel_rfl) (of_decide_eq_true (by kernel_rfl)) k1 bel lt1) trodAll_mk0)), rfl, bel.frame _, fun h => by cases h⟩

set_option maxRecDepth 100000 in
/-- A world for the witness: the settled one, each listed variable holding what its initialiser lays. -/
noncomputable def laidWorld (os : Os) : World :=
  { World.holding Tryd.prog os ⟨#[.cells #[.string ⟨#[69, 79, 70]⟩] 139, .cells #[.string ⟨#[98, 121, 116, 101, 115, 46, 66, 117, 102, 102, 101, 114, 58, 32, 116, 111, 111, 32, 108, 97, 114, 103, 101]⟩] 139, .cells #[.string ⟨#[98, 121, 116, 101, 115, 46, 66, 117, 102, 102, 101, 114, 58, 32, 85, 110, 114, 101, 97, 100, 66, 121, 116, 101, 58, 32, 112, 114, 101, 118, 105, 111, 117, 115, 32, 111, 112, 101, 114, 97, 116, 105, 111, 110, 32, 119, 97, 115, 32, 110, 111, 116, 32, 97, 32, 115, 117, 99, 99, 101, 115, 115, 102, 117, 108, 32, 114, 101, 97, 100]⟩] 139], #[], []⟩ with heap := ((((((World.holding Tryd.prog os ⟨#[.cells #[.string ⟨#[69, 79, 70]⟩] 139, .cells #[.string ⟨#[98, 121, 116, 101, 115, 46, 66, 117, 102, 102, 101, 114, 58, 32, 116, 111, 111, 32, 108, 97, 114, 103, 101]⟩] 139, .cells #[.string ⟨#[98, 121, 116, 101, 115, 46, 66, 117, 102, 102, 101, 114, 58, 32, 85, 110, 114, 101, 97, 100, 66, 121, 116, 101, 58, 32, 112, 114, 101, 118, 105, 111, 117, 115, 32, 111, 112, 101, 114, 97, 116, 105, 111, 110, 32, 119, 97, 115, 32, 110, 111, 116, 32, 97, 32, 115, 117, 99, 99, 101, 115, 115, 102, 117, 108, 32, 114, 101, 97, 100]⟩] 139], #[], []⟩).heap).modify 1 fun | .cells _ t frozen => .cells #[.iface 137 (.pointer (some ⟨(World.settled Tryd.prog os).heap.size + 0, 0, none⟩))] t frozen | o => o).modify 3 fun | .cells _ t frozen => .cells #[.iface 137 (.pointer (some ⟨(World.settled Tryd.prog os).heap.size + 1, 0, none⟩))] t frozen | o => o).modify 2 fun | .cells _ t frozen => .cells #[.iface 137 (.pointer (some ⟨(World.settled Tryd.prog os).heap.size + 2, 0, none⟩))] t frozen | o => o).modify 5 fun | .cells _ t frozen => .cells #[.int .u8 128, .int .u8 191, .int .u8 160, .int .u8 191, .int .u8 128, .int .u8 159, .int .u8 144, .int .u8 191, .int .u8 128, .int .u8 143, .int .u8 0, .int .u8 0, .int .u8 0, .int .u8 0, .int .u8 0, .int .u8 0, .int .u8 0, .int .u8 0, .int .u8 0, .int .u8 0, .int .u8 0, .int .u8 0, .int .u8 0, .int .u8 0, .int .u8 0, .int .u8 0, .int .u8 0, .int .u8 0, .int .u8 0, .int .u8 0, .int .u8 0, .int .u8 0] t frozen | o => o).modify 4 fun | .cells _ t frozen => .cells (Go.Pinned.utf8FirstZ.map fun (z : Nat) => Value.int .u8 (z : Int)).toArray t frozen | o => o }
theorem laid_met (os : Os) : laidMet Tryd.prog Rows.fnExactRunBufferUptoRow.laid ((laidWorld os).forCall (fun _ _ => 0) ⟨#[], #[.string ByteArray.empty, .slice none 0 0], []⟩).memory :=
  laidMet_of_run' 8 (by kernel_rfl) (by kernel_rfl)
theorem reads (os : Os) {H : Type} (enc : TypeId × Value → H) : ∃ places, DataW.whole enc Tryd.prog ((laidWorld os).forCall (fun _ _ => 0) ⟨#[], #[.string ByteArray.empty, .slice none 0 0], []⟩).memory Tryd.f7.params.toList Rows.fnExactRunBufferSpec.vars false #[.string ByteArray.empty, .slice none 0 0].toList 8 = some ([.lit (.string []), .nil], [], places) :=
  ⟨[], by kernel_rfl⟩

set_option maxRecDepth 100000 in
theorem lifted (os : Os) (started : os.Started) (H : Type) (enc : TypeId × Value → H) (F : Stop.Interp) :
    ReturnsInHanded {} Tryd.checked os 7 .any ((Rows.OpenSpec.upto Rows.fnExactRunBufferSpec).preRow enc Tryd.prog Tryd.f7 Rows.fnExactRunBufferUptoRow.domain false Rows.fnExactRunBufferUptoRow.laid) (((Rows.OpenSpec.upto Rows.fnExactRunBufferSpec).at F).post enc Tryd.prog Tryd.f7 false true false false) := by
  obtain ⟨places, hx⟩ := reads os enc
  refine returnsInHanded_of_row (C := Tryd.checked) (s := Rows.OpenSpec.upto Rows.fnExactRunBufferSpec) own started (by kernel_rfl) Tryd.func7
    (witness_row_at (enc := enc) (C := Tryd.checked) false (laidWorld os) #[.string ByteArray.empty, .slice none 0 0] rfl (by kernel_rfl) (by kernel_rfl) (by kernel_rfl)
      (OpenSpec.preRow_of_cond 8 hx (by kernel_rfl) (fun k hk => by cases hk; kernel_rfl) (by kernel_rfl) (laid_met os))) ?_
  intro W base args ds gs before hval hW _ hcond hsz hL _ _
  exact contract H enc W base args ds gs before hval (hcond _ rfl) hL hW

theorem j0 : (Rows.fnExactRunBufferUptoRow.wf (OpenSpec.ofChange (Rows.OpenSpec.upto Rows.fnExactRunBufferSpec).bare)) = true := by kernel_rfl
theorem j1 : (laidOutB Tryd.pinned.checked.prog) = true := by kernel_rfl
theorem j2 : (mapsRowed Tryd.pinned.checked.prog) = true := by kernel_rfl
theorem j3 : (Tryd.f7.params.all (Tryd.pinned.checked.prog.readableRec ·)) = true := by kernel_rfl
theorem j4 : (namedTie Tryd.pinned.checked.prog Rows.fnExactRunBufferUptoRow.named (Rows.OpenSpec.upto Rows.fnExactRunBufferSpec).bare.vars) = true := by kernel_rfl
theorem j5 : ((Rows.fnExactRunBufferUptoRow.stops == [])) = true := by kernel_rfl
theorem j6 : ((Tryd.pinned.checked.prog.stops == [])) = true := by kernel_rfl
theorem j7 : ((Rows.fnExactRunBufferUptoRow.knobs == [])) = true := by kernel_rfl
theorem j8 : ((Tryd.pinned.checked.prog.stopKnobs == [])) = true := by kernel_rfl
theorem j9 : ((Rows.fnExactRunBufferUptoRow.inPlace == Tryd.pinned.checked.prog.inPlace 7)) = true := by kernel_rfl
theorem j10 : ((Rows.fnExactRunBufferUptoRow.unfollowed == Tryd.pinned.checked.prog.unfollowed 7)) = true := by kernel_rfl
theorem j11 : ((Rows.fnExactRunBufferUptoRow.recurses == Tryd.pinned.checked.prog.recurses 7)) = true := by kernel_rfl
theorem j12 : ((Rows.fnExactRunBufferUptoRow.named == Tryd.pinned.checked.prog.varsNamed 7)) = true := by kernel_rfl
theorem j13 : ((Rows.fnExactRunBufferUptoRow.maps == (Tryd.f7.params.toList ++ (Rows.OpenSpec.upto Rows.fnExactRunBufferSpec).bare.plain.varTypes Tryd.pinned.checked.prog).any (Tryd.pinned.checked.prog.mapsRec ·))) = true := by kernel_rfl
theorem j14 : ((Rows.fnExactRunBufferUptoRow.ifaces == (Tryd.f7.params.toList ++ (Rows.OpenSpec.upto Rows.fnExactRunBufferSpec).bare.plain.varTypes Tryd.pinned.checked.prog).any (Tryd.pinned.checked.prog.ifacesRec ·))) = true := by kernel_rfl
theorem j15 : ((Rows.fnExactRunBufferUptoRow.mapsOut == Tryd.pinned.checked.prog.mapsAmong Tryd.f7.resultTypes.toList)) = true := by kernel_rfl
theorem j16 : ((Rows.fnExactRunBufferUptoRow.loops == (Tryd.f7.params.toList ++ (Rows.OpenSpec.upto Rows.fnExactRunBufferSpec).bare.plain.varTypes Tryd.pinned.checked.prog).any (Tryd.pinned.checked.prog.loopsFrom ·))) = true := by kernel_rfl
theorem j17 : ((Rows.fnExactRunBufferUptoRow.wideKeys == (Tryd.f7.params.toList ++ (Rows.OpenSpec.upto Rows.fnExactRunBufferSpec).bare.plain.varTypes Tryd.pinned.checked.prog ++ Tryd.f7.resultTypes.toList).any (Tryd.pinned.checked.prog.wideKeysFrom ·))) = true := by kernel_rfl
theorem j18 : ((Rows.OpenSpec.upto Rows.fnExactRunBufferSpec).bare.vars.all (Tryd.pinned.checked.prog.varReadable ·)) = true := by kernel_rfl
theorem j19 : (Tryd.f7.resultTypes.all (fun t => Tryd.pinned.checked.prog.readableRec t && decide (t < Tryd.pinned.checked.prog.types.size))) = true := by kernel_rfl
theorem j20 : ((Rows.fnExactRunBufferUptoRow.ifacesOut == Tryd.f7.resultTypes.toList.any (Tryd.pinned.checked.prog.ifacesRec ·))) = true := by kernel_rfl
theorem j21 : ((Rows.fnExactRunBufferUptoRow.loopsOut == Tryd.f7.resultTypes.toList.any (Tryd.pinned.checked.prog.loopsFrom ·))) = true := by kernel_rfl
theorem j22 : ((Rows.fnExactRunBufferUptoRow.plainKeys == Tryd.pinned.checked.prog.plainKeys)) = true := by kernel_rfl
theorem j23 : (Rows.fnExactRunBufferUptoRow.shortTexts.isNone) = true := by kernel_rfl
theorem j24 : (Tryd.pinned.checked.prog.stopsHeard) = true := by kernel_rfl
theorem j28 : ((Rows.fnExactRunBufferUptoRow.kinds == (if Rows.fnExactRunBufferUptoRow.domain.isEmpty then [] else Tryd.f7.params.toList.map fun t => match Tryd.pinned.checked.prog.underlying t with | some (.int k) => some k | _ => none))) = true := by kernel_rfl
theorem j29 : ((Rows.fnExactRunBufferUptoRow.pinned == Rows.fnExactRunBufferUptoRow.pinnedBy)) = true := by kernel_rfl
theorem j30 : ((Rows.fnExactRunBufferUptoRow.veiled == (Tryd.f7.params.toList ++ (Rows.OpenSpec.upto Rows.fnExactRunBufferSpec).bare.plain.varTypes Tryd.pinned.checked.prog ++ Tryd.f7.resultTypes.toList).any (Tryd.pinned.checked.prog.veiledRec ·))) = true := by kernel_rfl
theorem j31 : (Rows.fnExactRunBufferUptoRow.veiledFits Tryd.pinned.checked.prog Tryd.f7.params.toList (Tryd.f7.params.toList ++ (Rows.OpenSpec.upto Rows.fnExactRunBufferSpec).bare.plain.varTypes Tryd.pinned.checked.prog ++ Tryd.f7.resultTypes.toList)) = true := by kernel_rfl
set_option maxRecDepth 100000 in
theorem jf : joinedFacts Tryd.pinned.checked.prog 7 Tryd.f7 (Rows.OpenSpec.upto Rows.fnExactRunBufferSpec).bare Rows.fnExactRunBufferUptoRow = true := (and2 (and2 (and2 (and2 (and2 (and2 (and2 (and2 (and2 (and2 (and2 (and2 (and2 (and2 (and2 (and2 (and2 (and2 (and2 (and2 (and2 (and2 (and2 (and2 (and2 (and2 (and2 (and2 (and2 (and2 (and2 j0 j1) j2) j3) j4) j5) j6) j7) j8) j9) j10) j11) j12) j13) j14) j15) j16) j17) j18) j19) j20) j21) j22) j23) j24) seat_enters) seat_lifts) seat_make) j28) j29) j30) j31)
theorem said : Rows.FnExactRunBufferUptoSaid :=
  OpenClaim.holds_of_cond 7 Tryd.f7 rfl rfl rfl rfl rfl rfl rfl ⟨rfl, rfl, rfl, rfl, rfl⟩ rfl rfl rfl rfl rfl (by kernel_rfl) Tryd.func7 jf
    (of_decide_eq_true (by kernel_rfl)) (by unfold Func.isWrapper; rw [if_neg (by decide +kernel)]; exact ⟨rfl, rfl⟩)
    (fun os started H enc _ F => by rw [OpenClaim.pre_eq_preRow]; exact lifted os started H enc F)

theorem plain (f : FuncId) (fn : Func) (hf : Tryd.pinned.checked.prog.funcNamed Rows.fnExactRunBufferUptoRow.func = some f) (hfn : Tryd.pinned.checked.prog.funcs[f]? = some fn) :
    true = Tryd.pinned.checked.prog.looks [] ∧ ∀ (j : Nat) t, fn.params[j]? = some t → Tryd.pinned.checked.prog.wantsStandIn t = false := by
  obtain rfl : f = 7 := Option.some.inj ((show Tryd.prog.funcNamed Rows.fnExactRunBufferUptoRow.func = some 7 by kernel_rfl).symm.trans hf) |>.symm
  obtain rfl : fn = Tryd.f7 := (Option.some.inj (Tryd.func7.symm.trans hfn)).symm
  refine ⟨by kernel_rfl, fun j t ht => ?_⟩
  rw [Tryd.params7] at ht
  have hm : t = 9 ∨ t = 24 := by have := Array.mem_of_getElem? ht; simp at this; first | omega | (rcases this with h | h <;> (subst h; simp))
  rcases hm with rfl | rfl
  · exact (show Tryd.prog.wantsStandIn 9 = false by kernel_rfl)
  · exact (show Tryd.prog.wantsStandIn 24 = false by kernel_rfl)

theorem proved : Rows.FnExactRunBufferUptoCardSaid :=
  Claim7.holds_tied_plain_at .later [] _ _ _ _ said (fun _ h => by cases h) (by kernel_rfl) (fun _ h => by cases h) fnExactRunBufferUpto_row_tie rfl ⟨rfl, rfl⟩ (by kernel_rfl) rfl plain (by kernel_rfl)
#print axioms proved
end Go.Proofs.YtgjaeggpaomoaaaDoor.fnExactRunBufferUptoCard
