/-
  No cell of these rows narrows 'for every input' (looked for: loops, veiled, ifaces, maps, wideKeys, modest, calm, conditions, laid).
  DERIVED. THE GIVEN ROWS OF THIS SEAT. 8 by the template 'for every input the law returns true; each argument reads behind the call as it read before'; 0 by the template 'total and deterministic' (their statements: YtgniidnbpkhmcaaTotals.lean).
  GIVEN WITH THE SEED: the statements are not yours to turn. If you find one false, say at which input.
  Laid BY PROGRAM, IN A SANDBOX (cutbox-rows.mjs): the forced cells as the released guide's own fill.sh prints them over the translation 95b2df49ff3d21a3… (all of the seat's roots in one cut). By AI agents, Wed Nov 11 2026. No macro, syntax, notation, axiom, sorry.
-/
import Derived.Test.YtgniidnbpkhmcaaChecked
import GoSem.Claim
import GoSem.ClaimJoined
import GoSem.ClaimMapViews
import Derived.JoinedTies
import Derived.KernelRfl
namespace Go.Proofs.Ytgniidnbpkhmcaa
/- THE CELL 'sum', in the pinned program and in every row, IS THE sha256 OF THE DUMP (.gsa) THAT YtgniidnbpkhmcaaProg.lean LOADS. Nothing in Lean hashes anything: it is a label: what it is worth is what the hold of that sum in a sandbox is worth. -/
noncomputable def Try.pinned : Pinned := { name := "ytgniidnbpkhmcaa", sum := "95b2df49ff3d21a3f529bdd4dd96556c6fe4555c76fcdca644229ef80c4b8c1c", checked := Try.checked }
namespace Rows
def none {H : Type} : Left H := { results := [], args := [] }

/-- 'laws.FnExactBuildSingles': WHATEVER THE INPUT: true; the input reads as it did. -/
def fnExactBuildSinglesSpec : ChangeSpec := { name := "fnExactBuildSingles", fn := fun _ => fun
  | [d] => { results := [.lit (.bool true)], args := [d] }
  | _ => none }
def fnExactBuildSinglesRow : OpenClaim := { program := "ytgniidnbpkhmcaa", sum := "95b2df49ff3d21a3f529bdd4dd96556c6fe4555c76fcdca644229ef80c4b8c1c", func := "loop.example/lib-growingbuffers/laws.FnExactBuildSingles", spec := "fnExactBuildSingles", inPlace := ["internal/abi.NoEscape"], apart := false }
def FnExactBuildSinglesSaid : Prop := fnExactBuildSinglesRow.holds Try.pinned (OpenSpec.ofChange fnExactBuildSinglesSpec)

/-- ITS FALSE NEIGHBOUR: 'it returns false'. Refute it at one input. -/
def fnExactBuildSinglesWrong : ChangeSpec := { name := "fnExactBuildSingles", fn := fun _ => fun
  | [d] => { results := [.lit (.bool false)], args := [d] }
  | _ => none }
def FnExactBuildSinglesWrongFalsely : Prop := fnExactBuildSinglesRow.holds Try.pinned (OpenSpec.ofChange fnExactBuildSinglesWrong)

/-- 'laws.FnExactBuildSlices': WHATEVER THE INPUT: true; the input reads as it did. -/
def fnExactBuildSlicesSpec : ChangeSpec := { name := "fnExactBuildSlices", fn := fun _ => fun
  | [d] => { results := [.lit (.bool true)], args := [d] }
  | _ => none }
def fnExactBuildSlicesRow : OpenClaim := { program := "ytgniidnbpkhmcaa", sum := "95b2df49ff3d21a3f529bdd4dd96556c6fe4555c76fcdca644229ef80c4b8c1c", func := "loop.example/lib-growingbuffers/laws.FnExactBuildSlices", spec := "fnExactBuildSlices", inPlace := ["internal/abi.NoEscape"], apart := false }
def FnExactBuildSlicesSaid : Prop := fnExactBuildSlicesRow.holds Try.pinned (OpenSpec.ofChange fnExactBuildSlicesSpec)

/-- ITS FALSE NEIGHBOUR: 'it returns false'. Refute it at one input. -/
def fnExactBuildSlicesWrong : ChangeSpec := { name := "fnExactBuildSlices", fn := fun _ => fun
  | [d] => { results := [.lit (.bool false)], args := [d] }
  | _ => none }
def FnExactBuildSlicesWrongFalsely : Prop := fnExactBuildSlicesRow.holds Try.pinned (OpenSpec.ofChange fnExactBuildSlicesWrong)

/-- 'laws.FnExactBuildStrings': WHATEVER THE INPUT: true; the input reads as it did. -/
def fnExactBuildStringsSpec : ChangeSpec := { name := "fnExactBuildStrings", fn := fun _ => fun
  | [d] => { results := [.lit (.bool true)], args := [d] }
  | _ => none }
def fnExactBuildStringsRow : OpenClaim := { program := "ytgniidnbpkhmcaa", sum := "95b2df49ff3d21a3f529bdd4dd96556c6fe4555c76fcdca644229ef80c4b8c1c", func := "loop.example/lib-growingbuffers/laws.FnExactBuildStrings", spec := "fnExactBuildStrings", inPlace := ["internal/abi.NoEscape"], apart := false }
def FnExactBuildStringsSaid : Prop := fnExactBuildStringsRow.holds Try.pinned (OpenSpec.ofChange fnExactBuildStringsSpec)

/-- ITS FALSE NEIGHBOUR: 'it returns false'. Refute it at one input. -/
def fnExactBuildStringsWrong : ChangeSpec := { name := "fnExactBuildStrings", fn := fun _ => fun
  | [d] => { results := [.lit (.bool false)], args := [d] }
  | _ => none }
def FnExactBuildStringsWrongFalsely : Prop := fnExactBuildStringsRow.holds Try.pinned (OpenSpec.ofChange fnExactBuildStringsWrong)

/-- 'laws.FnExactRebuildStrings': WHATEVER THE INPUT: true; the input reads as it did. -/
def fnExactRebuildStringsSpec : ChangeSpec := { name := "fnExactRebuildStrings", fn := fun _ => fun
  | [d] => { results := [.lit (.bool true)], args := [d] }
  | _ => none }
def fnExactRebuildStringsRow : OpenClaim := { program := "ytgniidnbpkhmcaa", sum := "95b2df49ff3d21a3f529bdd4dd96556c6fe4555c76fcdca644229ef80c4b8c1c", func := "loop.example/lib-growingbuffers/laws.FnExactRebuildStrings", spec := "fnExactRebuildStrings", inPlace := ["internal/abi.NoEscape"], apart := false }
def FnExactRebuildStringsSaid : Prop := fnExactRebuildStringsRow.holds Try.pinned (OpenSpec.ofChange fnExactRebuildStringsSpec)

/-- ITS FALSE NEIGHBOUR: 'it returns false'. Refute it at one input. -/
def fnExactRebuildStringsWrong : ChangeSpec := { name := "fnExactRebuildStrings", fn := fun _ => fun
  | [d] => { results := [.lit (.bool false)], args := [d] }
  | _ => none }
def FnExactRebuildStringsWrongFalsely : Prop := fnExactRebuildStringsRow.holds Try.pinned (OpenSpec.ofChange fnExactRebuildStringsWrong)

/-- 'laws.FnRebuild': WHATEVER THE INPUT: true; the input reads as it did. -/
def fnRebuildSpec : ChangeSpec := { name := "fnRebuild", fn := fun _ => fun
  | [d] => { results := [.lit (.bool true)], args := [d] }
  | _ => none }
def fnRebuildRow : OpenClaim := { program := "ytgniidnbpkhmcaa", sum := "95b2df49ff3d21a3f529bdd4dd96556c6fe4555c76fcdca644229ef80c4b8c1c", func := "loop.example/lib-growingbuffers/laws.FnRebuild", spec := "fnRebuild", inPlace := ["internal/abi.NoEscape"], apart := false }
def FnRebuildSaid : Prop := fnRebuildRow.holds Try.pinned (OpenSpec.ofChange fnRebuildSpec)

/-- ITS FALSE NEIGHBOUR: 'it returns false'. Refute it at one input. -/
def fnRebuildWrong : ChangeSpec := { name := "fnRebuild", fn := fun _ => fun
  | [d] => { results := [.lit (.bool false)], args := [d] }
  | _ => none }
def FnRebuildWrongFalsely : Prop := fnRebuildRow.holds Try.pinned (OpenSpec.ofChange fnRebuildWrong)

/-- 'laws.FnExactGrowAndBuild': WHATEVER THE INPUT: true; the input reads as it did. -/
def fnExactGrowAndBuildSpec : ChangeSpec := { name := "fnExactGrowAndBuild", fn := fun _ => fun
  | [d1, d2, d3] => { results := [.lit (.bool true)], args := [d1, d2, d3] }
  | _ => none }
def fnExactGrowAndBuildRow : OpenClaim := { program := "ytgniidnbpkhmcaa", sum := "95b2df49ff3d21a3f529bdd4dd96556c6fe4555c76fcdca644229ef80c4b8c1c", func := "loop.example/lib-growingbuffers/laws.FnExactGrowAndBuild", spec := "fnExactGrowAndBuild", inPlace := ["internal/abi.NoEscape", "internal/bytealg.MakeNoZero"], apart := false }
def FnExactGrowAndBuildSaid : Prop := fnExactGrowAndBuildRow.holds Try.pinned (OpenSpec.ofChange fnExactGrowAndBuildSpec)

/-- ITS FALSE NEIGHBOUR: 'it returns false'. Refute it at one input. -/
def fnExactGrowAndBuildWrong : ChangeSpec := { name := "fnExactGrowAndBuild", fn := fun _ => fun
  | [d1, d2, d3] => { results := [.lit (.bool false)], args := [d1, d2, d3] }
  | _ => none }
def FnExactGrowAndBuildWrongFalsely : Prop := fnExactGrowAndBuildRow.holds Try.pinned (OpenSpec.ofChange fnExactGrowAndBuildWrong)

/-- 'laws.FnExactBuildRunes': WHATEVER THE INPUT: true; the input reads as it did. -/
def fnExactBuildRunesSpec : ChangeSpec := { name := "fnExactBuildRunes", fn := fun _ => fun
  | [d] => { results := [.lit (.bool true)], args := [d] }
  | _ => none }
def fnExactBuildRunesRow : OpenClaim := { program := "ytgniidnbpkhmcaa", sum := "95b2df49ff3d21a3f529bdd4dd96556c6fe4555c76fcdca644229ef80c4b8c1c", func := "loop.example/lib-growingbuffers/laws.FnExactBuildRunes", spec := "fnExactBuildRunes", inPlace := ["internal/abi.NoEscape"], apart := false }
def FnExactBuildRunesSaid : Prop := fnExactBuildRunesRow.holds Try.pinned (OpenSpec.ofChange fnExactBuildRunesSpec)

/-- ITS FALSE NEIGHBOUR: 'it returns false'. Refute it at one input. -/
def fnExactBuildRunesWrong : ChangeSpec := { name := "fnExactBuildRunes", fn := fun _ => fun
  | [d] => { results := [.lit (.bool false)], args := [d] }
  | _ => none }
def FnExactBuildRunesWrongFalsely : Prop := fnExactBuildRunesRow.holds Try.pinned (OpenSpec.ofChange fnExactBuildRunesWrong)

/-- 'laws.FnExactGrowBuilder': WHATEVER THE INPUT: true; the input reads as it did. -/
def fnExactGrowBuilderSpec : ChangeSpec := { name := "fnExactGrowBuilder", fn := fun _ => fun
  | [d1, d2] => { results := [.lit (.bool true)], args := [d1, d2] }
  | _ => none }
def fnExactGrowBuilderRow : OpenClaim := { program := "ytgniidnbpkhmcaa", sum := "95b2df49ff3d21a3f529bdd4dd96556c6fe4555c76fcdca644229ef80c4b8c1c", func := "loop.example/lib-growingbuffers/laws.FnExactGrowBuilder", spec := "fnExactGrowBuilder", inPlace := ["internal/abi.NoEscape", "internal/bytealg.MakeNoZero"], unfollowed := true, recurses := true, apart := false }
def FnExactGrowBuilderSaid : Prop := fnExactGrowBuilderRow.holds Try.pinned (OpenSpec.ofChange fnExactGrowBuilderSpec)

/-- ITS FALSE NEIGHBOUR: 'it returns false'. Refute it at one input. -/
def fnExactGrowBuilderWrong : ChangeSpec := { name := "fnExactGrowBuilder", fn := fun _ => fun
  | [d1, d2] => { results := [.lit (.bool false)], args := [d1, d2] }
  | _ => none }
def FnExactGrowBuilderWrongFalsely : Prop := fnExactGrowBuilderRow.holds Try.pinned (OpenSpec.ofChange fnExactGrowBuilderWrong)

/- THE SECOND FORM. 'bulk': how many values and letters a reading holds, each counted each time it is reached (what is shared counts as often as it is met; a slice's spare places count too). A statement '..UptoSaid' is the law's where the arguments, and the package variables that the reading takes, are together of bulk at most 1048576: NARROWER than '..Said'. Prove '..Said' where nothing that the law and all that it calls make is longer than what came in: it says more and counts as full. Else prove '..UptoSaid'. A law counts once. -/
mutual
def uptoBulk {H : Type} : DataW H → Nat
  | .lit (.string bytes) => bytes.length + 1
  | .lit _ => 1
  | .nil => 1
  | .ptr d => uptoBulk d + 1
  | .slice elems spare => uptoBulkAll elems + uptoBulkAll spare + 1
  | .agg parts => uptoBulkAll parts + 1
  | .iface _ d => uptoBulk d + 1
  | .map entries => uptoBulkEntries entries + 1
  | .held _ => 1
def uptoBulkAll {H : Type} : List (DataW H) → Nat
  | [] => 0
  | d :: r => uptoBulk d + uptoBulkAll r
def uptoBulkEntries {H : Type} : List (Lit × DataW H) → Nat
  | [] => 0
  | x :: r => uptoBulkEntry x + uptoBulkEntries r
def uptoBulkEntry {H : Type} : Lit × DataW H → Nat
  | (.string bytes, d) => bytes.length + uptoBulk d + 1
  | (_, d) => uptoBulk d + 1
 end
def uptoSmall : (H : Type) → List (DataW H) → Bool := fun _ ds => decide (uptoBulkAll ds ≤ 1048576)
def OpenSpec.upto (s : _root_.Go.ChangeSpec) : _root_.Go.OpenSpec := { _root_.Go.OpenSpec.ofChange s with cond := some uptoSmall }

/-- 'laws.FnExactBuildSingles', WHERE WHAT IT READS IS OF BULK AT MOST 1048576: true; the input reads as it did. -/
def fnExactBuildSinglesUptoRow : OpenClaim := { program := "ytgniidnbpkhmcaa", sum := "95b2df49ff3d21a3f529bdd4dd96556c6fe4555c76fcdca644229ef80c4b8c1c", func := "loop.example/lib-growingbuffers/laws.FnExactBuildSingles", spec := "fnExactBuildSingles", inPlace := ["internal/abi.NoEscape"], apart := false, narrowed := true }
def FnExactBuildSinglesUptoSaid : Prop := fnExactBuildSinglesUptoRow.holds Try.pinned (OpenSpec.upto fnExactBuildSinglesSpec)

/-- 'laws.FnExactBuildSlices', WHERE WHAT IT READS IS OF BULK AT MOST 1048576: true; the input reads as it did. -/
def fnExactBuildSlicesUptoRow : OpenClaim := { program := "ytgniidnbpkhmcaa", sum := "95b2df49ff3d21a3f529bdd4dd96556c6fe4555c76fcdca644229ef80c4b8c1c", func := "loop.example/lib-growingbuffers/laws.FnExactBuildSlices", spec := "fnExactBuildSlices", inPlace := ["internal/abi.NoEscape"], apart := false, narrowed := true }
def FnExactBuildSlicesUptoSaid : Prop := fnExactBuildSlicesUptoRow.holds Try.pinned (OpenSpec.upto fnExactBuildSlicesSpec)

/-- 'laws.FnExactBuildStrings', WHERE WHAT IT READS IS OF BULK AT MOST 1048576: true; the input reads as it did. -/
def fnExactBuildStringsUptoRow : OpenClaim := { program := "ytgniidnbpkhmcaa", sum := "95b2df49ff3d21a3f529bdd4dd96556c6fe4555c76fcdca644229ef80c4b8c1c", func := "loop.example/lib-growingbuffers/laws.FnExactBuildStrings", spec := "fnExactBuildStrings", inPlace := ["internal/abi.NoEscape"], apart := false, narrowed := true }
def FnExactBuildStringsUptoSaid : Prop := fnExactBuildStringsUptoRow.holds Try.pinned (OpenSpec.upto fnExactBuildStringsSpec)

/-- 'laws.FnExactRebuildStrings', WHERE WHAT IT READS IS OF BULK AT MOST 1048576: true; the input reads as it did. -/
def fnExactRebuildStringsUptoRow : OpenClaim := { program := "ytgniidnbpkhmcaa", sum := "95b2df49ff3d21a3f529bdd4dd96556c6fe4555c76fcdca644229ef80c4b8c1c", func := "loop.example/lib-growingbuffers/laws.FnExactRebuildStrings", spec := "fnExactRebuildStrings", inPlace := ["internal/abi.NoEscape"], apart := false, narrowed := true }
def FnExactRebuildStringsUptoSaid : Prop := fnExactRebuildStringsUptoRow.holds Try.pinned (OpenSpec.upto fnExactRebuildStringsSpec)

/-- 'laws.FnRebuild', WHERE WHAT IT READS IS OF BULK AT MOST 1048576: true; the input reads as it did. -/
def fnRebuildUptoRow : OpenClaim := { program := "ytgniidnbpkhmcaa", sum := "95b2df49ff3d21a3f529bdd4dd96556c6fe4555c76fcdca644229ef80c4b8c1c", func := "loop.example/lib-growingbuffers/laws.FnRebuild", spec := "fnRebuild", inPlace := ["internal/abi.NoEscape"], apart := false, narrowed := true }
def FnRebuildUptoSaid : Prop := fnRebuildUptoRow.holds Try.pinned (OpenSpec.upto fnRebuildSpec)

/-- 'laws.FnExactGrowAndBuild', WHERE WHAT IT READS IS OF BULK AT MOST 1048576: true; the input reads as it did. -/
def fnExactGrowAndBuildUptoRow : OpenClaim := { program := "ytgniidnbpkhmcaa", sum := "95b2df49ff3d21a3f529bdd4dd96556c6fe4555c76fcdca644229ef80c4b8c1c", func := "loop.example/lib-growingbuffers/laws.FnExactGrowAndBuild", spec := "fnExactGrowAndBuild", inPlace := ["internal/abi.NoEscape", "internal/bytealg.MakeNoZero"], apart := false, narrowed := true }
def FnExactGrowAndBuildUptoSaid : Prop := fnExactGrowAndBuildUptoRow.holds Try.pinned (OpenSpec.upto fnExactGrowAndBuildSpec)

/-- 'laws.FnExactBuildRunes', WHERE WHAT IT READS IS OF BULK AT MOST 1048576: true; the input reads as it did. -/
def fnExactBuildRunesUptoRow : OpenClaim := { program := "ytgniidnbpkhmcaa", sum := "95b2df49ff3d21a3f529bdd4dd96556c6fe4555c76fcdca644229ef80c4b8c1c", func := "loop.example/lib-growingbuffers/laws.FnExactBuildRunes", spec := "fnExactBuildRunes", inPlace := ["internal/abi.NoEscape"], apart := false, narrowed := true }
def FnExactBuildRunesUptoSaid : Prop := fnExactBuildRunesUptoRow.holds Try.pinned (OpenSpec.upto fnExactBuildRunesSpec)

/-- 'laws.FnExactGrowBuilder', WHERE WHAT IT READS IS OF BULK AT MOST 1048576: true; the input reads as it did. -/
def fnExactGrowBuilderUptoRow : OpenClaim := { program := "ytgniidnbpkhmcaa", sum := "95b2df49ff3d21a3f529bdd4dd96556c6fe4555c76fcdca644229ef80c4b8c1c", func := "loop.example/lib-growingbuffers/laws.FnExactGrowBuilder", spec := "fnExactGrowBuilder", inPlace := ["internal/abi.NoEscape", "internal/bytealg.MakeNoZero"], unfollowed := true, recurses := true, apart := false, narrowed := true }
def FnExactGrowBuilderUptoSaid : Prop := fnExactGrowBuilderUptoRow.holds Try.pinned (OpenSpec.upto fnExactGrowBuilderSpec)

end Rows
end Go.Proofs.Ytgniidnbpkhmcaa
