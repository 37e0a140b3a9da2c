/- The law FnExactReadFrom holds for every input of bulk at most 1048576: the call returns true, and its arguments read as before. Conditions: none beside the statement's own. -/
import Derived.Test.YtgjaeggpaomoaaaDoorRows
import Derived.Test.YtgjaeggpaomoaaaDoorArgs
import Derived.Test.YtgjaeggpaomoaaaDoorLawAF
import Derived.WalkKit
import Derived.ProofKit
import Derived.OpenShut
import Derived.ShutString
import Derived.ChangeOld
import Derived.Below
import Derived.JoinedCond
import Derived.SliceStrings
import Derived.SizedLaws
import Derived.Test.YtgjaeggpaomoaaaDoorLaid
import Derived.Test.YtgjaeggpaomoaaaDoorClosed
import Derived.Test.YtgjaeggpaomoaaaDoorCards
import Derived.Test.YtgjaeggpaomoaaaDoorTie
import Derived.Deep.DeepHandedRow
import Derived.Stop.LaidErr
import Derived.SevenTiedAt
namespace Go.Proofs.YtgjaeggpaomoaaaDoor.fnExactReadFromUptoCard
open Go.ChangeShapes Go.WideShapes Go.ChangeAt Go.RowKit
open Go.ChangeMaps (open_string shut_string)
set_option linter.unusedVariables false

theorem own : ownKnob Tryd.prog.godebug = none := by kernel_rfl
theorem laidOut : laidOutB Tryd.prog = true := by kernel_rfl

theorem gv0 : Tryd.prog.globalNamed "io.EOF" = some 1 := by kernel_rfl
theorem gt0 : (Tryd.prog.globals[1]?).map (·.type) = some 68 := by kernel_rfl
theorem gv1 : Tryd.prog.globalNamed "bytes.ErrTooLarge" = some 3 := by kernel_rfl
theorem gt1 : (Tryd.prog.globals[3]?).map (·.type) = some 68 := by kernel_rfl
theorem gv2 : Tryd.prog.globalNamed "bytes.errNegativeRead" = some 0 := by kernel_rfl
theorem gt2 : (Tryd.prog.globals[0]?).map (·.type) = some 68 := by kernel_rfl
theorem star : "*" ++ "errors.errorString" = "*errors.errorString" := by decide
theorem rowE (u : TypeId) (h : Tryd.prog.typeName? 3 u = some "*errors.errorString") : u = 137 :=
  typeName_ptr_named (nm := "errors.errorString") (by rw [star]; kernel_rfl) (by kernel_rfl) (by decide) u (by rw [star]; exact h)

set_option maxRecDepth 100000 in
theorem contract (H : Type) (enc : TypeId × Value → H) (W : World) (base : Nat) (args : Array Value) (ds gs : List (DataW H)) (before : List MemPlace)
    (hval : ∀ (j : Nat) t v, Tryd.f4.params[j]? = some t → args[j]? = some v → Value.okWide Tryd.prog W .any base t v)
    (hk : Rows.uptoSmall H (ds ++ gs) = true)
    (hL : laidMetH Tryd.prog Rows.fnExactReadFromUptoRow.laid W)
    (hW : DataW.Whole enc Tryd.prog Tryd.f4.params.toList Rows.fnExactReadFromSpec.vars false W args.toList ds gs before) :
    Calls Tryd.prog 4 args W fun e W' => ∃ v, e = .returned v ∧ Rows.fnExactReadFromSpec.post enc Tryd.prog Tryd.f4 false true false false W args v W' := by
  have hW' := hW
  obtain ⟨p, q, hA0, hV, rfl, hfz, hnd⟩ := hW
  have hA : DataW.TrodAll enc Tryd.prog W 0 (fun _ => true) true Tryd.f4.params.toList args.toList ds p := hA0
  rw [Tryd.params4] at hA hval
  obtain ⟨v0, vs0, d0, ds0, p0, q0, hargs, rfl, rfl, h0, r0⟩ := trodAll_cons hA
  obtain ⟨v1, vs1, d1, ds1, p1, q1, rfl, rfl, rfl, h1, r1⟩ := trodAll_cons r0
  obtain ⟨v2, vs2, d2, ds2, p2, q2, rfl, rfl, rfl, h2, r2⟩ := trodAll_cons r1
  obtain ⟨v3, vs3, d3, ds3, p3, q3, rfl, rfl, rfl, h3, r3⟩ := trodAll_cons r2
  obtain ⟨rfl, rfl, rfl⟩ := trodAll_nil r3
  obtain rfl : args = #[v0, v1, v2, v3] := by cases args; simp_all
  obtain ⟨rfl, rfl⟩ := trodVars_none hV
  have hbulk := of_decide_eq_true hk
  simp only [List.append_nil, Rows.uptoBulkAll] at hbulk
  have hL0 : laidMet Tryd.prog Rows.fnExactReadFromUptoRow.laid W := hL
  have hL1 := laidMet.tail hL0
  have hL2 := laidMet.tail hL1
  obtain ⟨e0, s0, ev0, ec0, et0, es0⟩ := laid_sentinel hL0 gv0 gt0 Tryd.underlying68 rowE Tryd.underlying137 Tryd.underlying139 rfl rfl Tryd.underlying9 (by kernel_rfl) (by kernel_rfl)
  have hE0 : Eof W e0 := World.var?_cell gv0 ev0 0
  obtain ⟨a0, rfl, rfl, rfl, w0⟩ := open_string Tryd.underlying9 (hval 0 9 v0 rfl rfl) h0
  have w0' : a0.data.toList.length ≤ 9223372036854775807 := by simpa [maxLen] using w0
  have b0 : a0.data.toList.length + 1 = Rows.uptoBulk (DataW.lit (H := H) (.string a0.data.toList)) := by simp [Rows.uptoBulk]
  obtain ⟨a1, len1, cap1, rfl⟩ := okWide_slice Tryd.underlying37 (hval 1 37 v1 rfl rfl)
  have k1 := h1
  have lt1 : ∀ x ∈ p1, x.block < W.heap.size := by obtain ⟨m, hm⟩ := k1; exact DataW.trod_lt m _ _ _ hm
  obtain ⟨l1, w1, b1⟩ : ∃ l : List (List UInt8), (Slv W a1 len1 (l.map fun x => Value.string ⟨x.toArray⟩) ∧ ∀ x ∈ l, x.length ≤ 9223372036854775807) ∧ ((l.map List.length).sum + len1) + 1 ≤ Rows.uptoBulk d1 := by
    obtain ⟨fuel, hf⟩ := h1
    rcases open_strings Tryd.underlying37 Tryd.underlying9 (by kernel_rfl) hf with ⟨hcs, hx⟩ | ⟨x, l, c, zs, hcs, _, hl, hm, hz, hx, hcell, hwz⟩
    · simp [Value.cells] at hcs
      obtain ⟨rfl, rfl, rfl⟩ := hcs
      simp only [Prod.mk.injEq] at hx
      obtain ⟨rfl, _⟩ := hx
      exact ⟨[], ⟨⟨rfl, fun j hj => absurd hj (by simp)⟩, by simp⟩, by simp [Rows.uptoBulk]⟩
    · simp [Value.cells] at hcs
      obtain ⟨rfl, rfl, rfl⟩ := hcs
      have hz' : zs.length = cap1 := by simpa using hz
      simp only [Prod.mk.injEq] at hx
      obtain ⟨rfl, _⟩ := hx
      exact ⟨(zs.take len1).map fun s => s.data.toList, ⟨slv_of_strs hl hz' hcell, fun x hx => by obtain ⟨s, hs, rfl⟩ := List.mem_map.1 hx; have := hwz s (List.mem_of_mem_take hs); simpa [maxLen] using this⟩, by have := bulk_slice (H := H) (strs (zs.take len1)) (strs (zs.drop len1)); have := bulk_strs (H := H) (zs.take len1); simp only [List.length_take] at this; omega⟩
  obtain ⟨a2, rfl, rfl, rfl⟩ := open_bool Tryd.underlying4 (hval 2 4 v2 rfl rfl) h2
  obtain ⟨a3, rfl, rfl, rfl⟩ := open_bool Tryd.underlying4 (hval 3 4 v3 rfl rfl) h3
  clear hA0
  have hw := FnExactReadFrom_walk a0.data.toList a1 len1 cap1 l1 a2 a3 W e0 hE0 w0' w1.1 w1.2 (by omega)
  rw [str_eq a0] at hw
  refine hw.mono fun e W' ⟨he, bel⟩ => ?_
  subst he
  exact ⟨_, rfl, _, _, _, [], _, [], hW', trodAll_mk1 (shut_bool Tryd.underlying4 _), (trodAll_cons_mk (shut_string Tryd.underlying9 w0) (trodAll_cons_mk (Below.trod laidOut (by kernel_rfl) (of_decide_eq_true (by kernel_rfl)) k1 bel lt1) (trodAll_cons_mk (shut_bool Tryd.underlying4 _) (trodAll_cons_mk (shut_bool Tryd.underlying4 _) trodAll_mk0)))), rfl, bel.frame _, fun h => by cases h⟩

set_option maxRecDepth 100000 in
/-- A world for the witness: the settled one, each listed variable holding what its initialiser lays. -/
noncomputable def laidWorld (os : Os) : World :=
  { World.holding Tryd.prog os ⟨#[.cells #[.string ⟨#[69, 79, 70]⟩] 139, .cells #[.string ⟨#[98, 121, 116, 101, 115, 46, 66, 117, 102, 102, 101, 114, 58, 32, 116, 111, 111, 32, 108, 97, 114, 103, 101]⟩] 139, .cells #[.string ⟨#[98, 121, 116, 101, 115, 46, 66, 117, 102, 102, 101, 114, 58, 32, 114, 101, 97, 100, 101, 114, 32, 114, 101, 116, 117, 114, 110, 101, 100, 32, 110, 101, 103, 97, 116, 105, 118, 101, 32, 99, 111, 117, 110, 116, 32, 102, 114, 111, 109, 32, 82, 101, 97, 100]⟩] 139], #[], []⟩ with heap := ((((World.holding Tryd.prog os ⟨#[.cells #[.string ⟨#[69, 79, 70]⟩] 139, .cells #[.string ⟨#[98, 121, 116, 101, 115, 46, 66, 117, 102, 102, 101, 114, 58, 32, 116, 111, 111, 32, 108, 97, 114, 103, 101]⟩] 139, .cells #[.string ⟨#[98, 121, 116, 101, 115, 46, 66, 117, 102, 102, 101, 114, 58, 32, 114, 101, 97, 100, 101, 114, 32, 114, 101, 116, 117, 114, 110, 101, 100, 32, 110, 101, 103, 97, 116, 105, 118, 101, 32, 99, 111, 117, 110, 116, 32, 102, 114, 111, 109, 32, 82, 101, 97, 100]⟩] 139], #[], []⟩).heap).modify 1 fun | .cells _ t frozen => .cells #[.iface 137 (.pointer (some ⟨(World.settled Tryd.prog os).heap.size + 0, 0, none⟩))] t frozen | o => o).modify 3 fun | .cells _ t frozen => .cells #[.iface 137 (.pointer (some ⟨(World.settled Tryd.prog os).heap.size + 1, 0, none⟩))] t frozen | o => o).modify 0 fun | .cells _ t frozen => .cells #[.iface 137 (.pointer (some ⟨(World.settled Tryd.prog os).heap.size + 2, 0, none⟩))] t frozen | o => o }
theorem laid_met (os : Os) : laidMet Tryd.prog Rows.fnExactReadFromUptoRow.laid ((laidWorld os).forCall (fun _ _ => 0) ⟨#[], #[.string ByteArray.empty, .slice none 0 0, .bool false, .bool false], []⟩).memory :=
  laidMet_of_run' 8 (by kernel_rfl) (by kernel_rfl)
theorem reads (os : Os) {H : Type} (enc : TypeId × Value → H) : ∃ places, DataW.whole enc Tryd.prog ((laidWorld os).forCall (fun _ _ => 0) ⟨#[], #[.string ByteArray.empty, .slice none 0 0, .bool false, .bool false], []⟩).memory Tryd.f4.params.toList Rows.fnExactReadFromSpec.vars false #[.string ByteArray.empty, .slice none 0 0, .bool false, .bool false].toList 8 = some ([.lit (.string []), .nil, .lit (.bool false), .lit (.bool false)], [], places) :=
  ⟨[], by kernel_rfl⟩

set_option maxRecDepth 100000 in
theorem lifted (os : Os) (started : os.Started) (H : Type) (enc : TypeId × Value → H) (F : Stop.Interp) :
    ReturnsInHanded {} Tryd.checked os 4 .any ((Rows.OpenSpec.upto Rows.fnExactReadFromSpec).preRow enc Tryd.prog Tryd.f4 Rows.fnExactReadFromUptoRow.domain false Rows.fnExactReadFromUptoRow.laid) (((Rows.OpenSpec.upto Rows.fnExactReadFromSpec).at F).post enc Tryd.prog Tryd.f4 false true false false) := by
  obtain ⟨places, hx⟩ := reads os enc
  refine returnsInHanded_of_row (C := Tryd.checked) (s := Rows.OpenSpec.upto Rows.fnExactReadFromSpec) own started (by kernel_rfl) Tryd.func4
    (witness_row_at (enc := enc) (C := Tryd.checked) false (laidWorld os) #[.string ByteArray.empty, .slice none 0 0, .bool false, .bool false] rfl (by kernel_rfl) (by kernel_rfl) (by kernel_rfl)
      (OpenSpec.preRow_of_cond 8 hx (by kernel_rfl) (fun k hk => by cases hk; kernel_rfl) (by kernel_rfl) (laid_met os))) ?_
  intro W base args ds gs before hval hW _ hcond hsz hL _ _
  exact contract H enc W base args ds gs before hval (hcond _ rfl) hL hW

theorem j0 : (Rows.fnExactReadFromUptoRow.wf (OpenSpec.ofChange (Rows.OpenSpec.upto Rows.fnExactReadFromSpec).bare)) = true := by kernel_rfl
theorem j1 : (laidOutB Tryd.pinned.checked.prog) = true := by kernel_rfl
theorem j2 : (mapsRowed Tryd.pinned.checked.prog) = true := by kernel_rfl
theorem j3 : (Tryd.f4.params.all (Tryd.pinned.checked.prog.readableRec ·)) = true := by kernel_rfl
theorem j4 : (namedTie Tryd.pinned.checked.prog Rows.fnExactReadFromUptoRow.named (Rows.OpenSpec.upto Rows.fnExactReadFromSpec).bare.vars) = true := by kernel_rfl
theorem j5 : ((Rows.fnExactReadFromUptoRow.stops == [])) = true := by kernel_rfl
theorem j6 : ((Tryd.pinned.checked.prog.stops == [])) = true := by kernel_rfl
theorem j7 : ((Rows.fnExactReadFromUptoRow.knobs == [])) = true := by kernel_rfl
theorem j8 : ((Tryd.pinned.checked.prog.stopKnobs == [])) = true := by kernel_rfl
theorem j9 : ((Rows.fnExactReadFromUptoRow.inPlace == Tryd.pinned.checked.prog.inPlace 4)) = true := by kernel_rfl
theorem j10 : ((Rows.fnExactReadFromUptoRow.unfollowed == Tryd.pinned.checked.prog.unfollowed 4)) = true := by kernel_rfl
theorem j11 : ((Rows.fnExactReadFromUptoRow.recurses == Tryd.pinned.checked.prog.recurses 4)) = true := by kernel_rfl
theorem j12 : ((Rows.fnExactReadFromUptoRow.named == Tryd.pinned.checked.prog.varsNamed 4)) = true := by kernel_rfl
theorem j13 : ((Rows.fnExactReadFromUptoRow.maps == (Tryd.f4.params.toList ++ (Rows.OpenSpec.upto Rows.fnExactReadFromSpec).bare.plain.varTypes Tryd.pinned.checked.prog).any (Tryd.pinned.checked.prog.mapsRec ·))) = true := by kernel_rfl
theorem j14 : ((Rows.fnExactReadFromUptoRow.ifaces == (Tryd.f4.params.toList ++ (Rows.OpenSpec.upto Rows.fnExactReadFromSpec).bare.plain.varTypes Tryd.pinned.checked.prog).any (Tryd.pinned.checked.prog.ifacesRec ·))) = true := by kernel_rfl
theorem j15 : ((Rows.fnExactReadFromUptoRow.mapsOut == Tryd.pinned.checked.prog.mapsAmong Tryd.f4.resultTypes.toList)) = true := by kernel_rfl
theorem j16 : ((Rows.fnExactReadFromUptoRow.loops == (Tryd.f4.params.toList ++ (Rows.OpenSpec.upto Rows.fnExactReadFromSpec).bare.plain.varTypes Tryd.pinned.checked.prog).any (Tryd.pinned.checked.prog.loopsFrom ·))) = true := by kernel_rfl
theorem j17 : ((Rows.fnExactReadFromUptoRow.wideKeys == (Tryd.f4.params.toList ++ (Rows.OpenSpec.upto Rows.fnExactReadFromSpec).bare.plain.varTypes Tryd.pinned.checked.prog ++ Tryd.f4.resultTypes.toList).any (Tryd.pinned.checked.prog.wideKeysFrom ·))) = true := by kernel_rfl
theorem j18 : ((Rows.OpenSpec.upto Rows.fnExactReadFromSpec).bare.vars.all (Tryd.pinned.checked.prog.varReadable ·)) = true := by kernel_rfl
theorem j19 : (Tryd.f4.resultTypes.all (fun t => Tryd.pinned.checked.prog.readableRec t && decide (t < Tryd.pinned.checked.prog.types.size))) = true := by kernel_rfl
theorem j20 : ((Rows.fnExactReadFromUptoRow.ifacesOut == Tryd.f4.resultTypes.toList.any (Tryd.pinned.checked.prog.ifacesRec ·))) = true := by kernel_rfl
theorem j21 : ((Rows.fnExactReadFromUptoRow.loopsOut == Tryd.f4.resultTypes.toList.any (Tryd.pinned.checked.prog.loopsFrom ·))) = true := by kernel_rfl
theorem j22 : ((Rows.fnExactReadFromUptoRow.plainKeys == Tryd.pinned.checked.prog.plainKeys)) = true := by kernel_rfl
theorem j23 : (Rows.fnExactReadFromUptoRow.shortTexts.isNone) = true := by kernel_rfl
theorem j24 : (Tryd.pinned.checked.prog.stopsHeard) = true := by kernel_rfl
theorem j28 : ((Rows.fnExactReadFromUptoRow.kinds == (if Rows.fnExactReadFromUptoRow.domain.isEmpty then [] else Tryd.f4.params.toList.map fun t => match Tryd.pinned.checked.prog.underlying t with | some (.int k) => some k | _ => none))) = true := by kernel_rfl
theorem j29 : ((Rows.fnExactReadFromUptoRow.pinned == Rows.fnExactReadFromUptoRow.pinnedBy)) = true := by kernel_rfl
theorem j30 : ((Rows.fnExactReadFromUptoRow.veiled == (Tryd.f4.params.toList ++ (Rows.OpenSpec.upto Rows.fnExactReadFromSpec).bare.plain.varTypes Tryd.pinned.checked.prog ++ Tryd.f4.resultTypes.toList).any (Tryd.pinned.checked.prog.veiledRec ·))) = true := by kernel_rfl
theorem j31 : (Rows.fnExactReadFromUptoRow.veiledFits Tryd.pinned.checked.prog Tryd.f4.params.toList (Tryd.f4.params.toList ++ (Rows.OpenSpec.upto Rows.fnExactReadFromSpec).bare.plain.varTypes Tryd.pinned.checked.prog ++ Tryd.f4.resultTypes.toList)) = true := by kernel_rfl
set_option maxRecDepth 100000 in
theorem jf : joinedFacts Tryd.pinned.checked.prog 4 Tryd.f4 (Rows.OpenSpec.upto Rows.fnExactReadFromSpec).bare Rows.fnExactReadFromUptoRow = true := (and2 (and2 (and2 (and2 (and2 (and2 (and2 (and2 (and2 (and2 (and2 (and2 (and2 (and2 (and2 (and2 (and2 (and2 (and2 (and2 (and2 (and2 (and2 (and2 (and2 (and2 (and2 (and2 (and2 (and2 (and2 j0 j1) j2) j3) j4) j5) j6) j7) j8) j9) j10) j11) j12) j13) j14) j15) j16) j17) j18) j19) j20) j21) j22) j23) j24) seat_enters) seat_lifts) seat_make) j28) j29) j30) j31)
theorem said : Rows.FnExactReadFromUptoSaid :=
  OpenClaim.holds_of_cond 4 Tryd.f4 rfl rfl rfl rfl rfl rfl rfl ⟨rfl, rfl, rfl, rfl, rfl⟩ rfl rfl rfl rfl rfl (by kernel_rfl) Tryd.func4 jf
    (of_decide_eq_true (by kernel_rfl)) (by unfold Func.isWrapper; rw [if_neg (by decide +kernel)]; exact ⟨rfl, rfl⟩)
    (fun os started H enc _ F => by rw [OpenClaim.pre_eq_preRow]; exact lifted os started H enc F)

theorem plain (f : FuncId) (fn : Func) (hf : Tryd.pinned.checked.prog.funcNamed Rows.fnExactReadFromUptoRow.func = some f) (hfn : Tryd.pinned.checked.prog.funcs[f]? = some fn) :
    true = Tryd.pinned.checked.prog.looks [] ∧ ∀ (j : Nat) t, fn.params[j]? = some t → Tryd.pinned.checked.prog.wantsStandIn t = false := by
  obtain rfl : f = 4 := Option.some.inj ((show Tryd.prog.funcNamed Rows.fnExactReadFromUptoRow.func = some 4 by kernel_rfl).symm.trans hf) |>.symm
  obtain rfl : fn = Tryd.f4 := (Option.some.inj (Tryd.func4.symm.trans hfn)).symm
  refine ⟨by kernel_rfl, fun j t ht => ?_⟩
  rw [Tryd.params4] at ht
  have hm : t = 9 ∨ t = 37 ∨ t = 4 := by have := Array.mem_of_getElem? ht; simp at this; first | omega | (rcases this with h | h | h | h <;> (subst h; simp))
  rcases hm with rfl | rfl | rfl
  · exact (show Tryd.prog.wantsStandIn 9 = false by kernel_rfl)
  · exact (show Tryd.prog.wantsStandIn 37 = false by kernel_rfl)
  · exact (show Tryd.prog.wantsStandIn 4 = false by kernel_rfl)

theorem proved : Rows.FnExactReadFromUptoCardSaid :=
  Claim7.holds_tied_plain_at .later [] _ _ _ _ said (fun _ h => by cases h) (by kernel_rfl) (fun _ h => by cases h) fnExactReadFromUpto_row_tie rfl ⟨rfl, rfl⟩ (by kernel_rfl) rfl plain (by kernel_rfl)
#print axioms proved
end Go.Proofs.YtgjaeggpaomoaaaDoor.fnExactReadFromUptoCard
