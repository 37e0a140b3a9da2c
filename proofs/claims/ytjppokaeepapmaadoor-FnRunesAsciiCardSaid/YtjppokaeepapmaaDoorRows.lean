/-
  NARROWER THAN 'FOR EVERY INPUT', by the rows' own cells (each row's printed sentence says how): FnExactGrowText: laid · FnSpace: laid · FnExactReadFrom: laid · FnExactWriteRunes: laid · FnExactWriteWrong: laid · FnWriteRoads: laid · FnRunesAscii: laid · FnReadFromRoad: laid · FnTruncateReset: laid · FnBuilderRoads: laid · FnGrowKeeps: laid · FnBuilderRunes: laid.
  DERIVED. THE GIVEN ROWS OF THIS SEAT. 12 by the template 'for every input the law returns true; each argument reads behind the call as it read before'; 0 by the template 'total and deterministic' (their statements: YtjppokaeepapmaaDoorTotals.lean).
  GIVEN WITH THE SEED: the statements are not yours to turn. If you find one false, say at which input.
  Laid BY PROGRAM, IN A SANDBOX (cutbox-rows.mjs): the forced cells as the released guide's own fill.sh prints them over the translation d97c56c14c1b0cc2… (all of the seat's roots in one cut). By AI agents, Wed Nov 11 2026. No macro, syntax, notation, axiom, sorry.
-/
import Derived.Test.YtjppokaeepapmaaDoorChecked
import GoSem.Claim
import GoSem.ClaimJoined
import GoSem.ClaimMapViews
import Derived.JoinedTies
import Derived.KernelRfl
namespace Go.Proofs.YtjppokaeepapmaaDoor
/- THE CELL 'sum', in the pinned program and in every row, IS THE sha256 OF THE DUMP (.gsa) THAT YtjppokaeepapmaaDoorProg.lean LOADS. Nothing in Lean hashes anything: it is a label: what it is worth is what the hold of that sum in a sandbox is worth. -/
noncomputable def Tryd.pinned : Pinned := { name := "ytjppokaeepapmaadoor", sum := "d97c56c14c1b0cc2617790a25a93e8461733bccf254b7b5a45d1519e6de4ad2e", checked := Tryd.checked }
namespace Rows
def none {H : Type} : Left H := { results := [], args := [] }

/- WHAT THE LISTED PACKAGE-LEVEL VARIABLES READ AS WHEN THE CALL BEGINS. Each datum BY PROGRAM (the guide's laid-datum.mjs) off the statement by which the dump's own 'gosem.cut.vars' lays the variable. In a bare row this is a premise. The card (YtjppokaeepapmaaDoorCards.lean) ties it to the program's text. -/
def laid_bytes_ErrTooLarge {H : Type} : DataW H := .iface "*errors.errorString" (.ptr (.agg [.lit (.string [98, 121, 116, 101, 115, 46, 66, 117, 102, 102, 101, 114, 58, 32, 116, 111, 111, 32, 108, 97, 114, 103, 101])]))
def laid_io_EOF {H : Type} : DataW H := .iface "*errors.errorString" (.ptr (.agg [.lit (.string [69, 79, 70])]))
def laid_bytes_errNegativeRead {H : Type} : DataW H := .iface "*errors.errorString" (.ptr (.agg [.lit (.string [98, 121, 116, 101, 115, 46, 66, 117, 102, 102, 101, 114, 58, 32, 114, 101, 97, 100, 101, 114, 32, 114, 101, 116, 117, 114, 110, 101, 100, 32, 110, 101, 103, 97, 116, 105, 118, 101, 32, 99, 111, 117, 110, 116, 32, 102, 114, 111, 109, 32, 82, 101, 97, 100])]))

/-- 'laws.FnExactGrowText': WHATEVER THE INPUT: true; the input reads as it did. -/
def fnExactGrowTextSpec : ChangeSpec := { name := "fnExactGrowText", fn := fun _ => fun
  | [d1, d2] => { results := [.lit (.bool true)], args := [d1, d2] }
  | _ => none }
def fnExactGrowTextRow : OpenClaim := { program := "ytjppokaeepapmaadoor", sum := "d97c56c14c1b0cc2617790a25a93e8461733bccf254b7b5a45d1519e6de4ad2e", func := "loop.example/lib-growingbuffers/laws.FnExactGrowText", spec := "fnExactGrowText", unfollowed := true, recurses := true, named := ["bytes.ErrTooLarge"], apart := false, laid := [("bytes.ErrTooLarge", laid_bytes_ErrTooLarge)] }
def FnExactGrowTextSaid : Prop := fnExactGrowTextRow.holds Tryd.pinned (OpenSpec.ofChange fnExactGrowTextSpec)

/-- ITS FALSE NEIGHBOUR: 'it returns false'. Refute it at one input. -/
def fnExactGrowTextWrong : ChangeSpec := { name := "fnExactGrowText", fn := fun _ => fun
  | [d1, d2] => { results := [.lit (.bool false)], args := [d1, d2] }
  | _ => none }
def FnExactGrowTextWrongFalsely : Prop := fnExactGrowTextRow.holds Tryd.pinned (OpenSpec.ofChange fnExactGrowTextWrong)

/-- 'laws.FnSpace': WHATEVER THE INPUT: true; the input reads as it did. -/
def fnSpaceSpec : ChangeSpec := { name := "fnSpace", fn := fun _ => fun
  | [d] => { results := [.lit (.bool true)], args := [d] }
  | _ => none }
def fnSpaceRow : OpenClaim := { program := "ytjppokaeepapmaadoor", sum := "d97c56c14c1b0cc2617790a25a93e8461733bccf254b7b5a45d1519e6de4ad2e", func := "loop.example/lib-growingbuffers/laws.FnSpace", spec := "fnSpace", unfollowed := true, recurses := true, named := ["bytes.ErrTooLarge"], apart := false, laid := [("bytes.ErrTooLarge", laid_bytes_ErrTooLarge)] }
def FnSpaceSaid : Prop := fnSpaceRow.holds Tryd.pinned (OpenSpec.ofChange fnSpaceSpec)

/-- ITS FALSE NEIGHBOUR: 'it returns false'. Refute it at one input. -/
def fnSpaceWrong : ChangeSpec := { name := "fnSpace", fn := fun _ => fun
  | [d] => { results := [.lit (.bool false)], args := [d] }
  | _ => none }
def FnSpaceWrongFalsely : Prop := fnSpaceRow.holds Tryd.pinned (OpenSpec.ofChange fnSpaceWrong)

/-- 'laws.FnExactReadFrom': WHATEVER THE INPUT: true; the input reads as it did. -/
def fnExactReadFromSpec : ChangeSpec := { name := "fnExactReadFrom", fn := fun _ => fun
  | [d1, d2, d3, d4] => { results := [.lit (.bool true)], args := [d1, d2, d3, d4] }
  | _ => none }
def fnExactReadFromRow : OpenClaim := { program := "ytjppokaeepapmaadoor", sum := "d97c56c14c1b0cc2617790a25a93e8461733bccf254b7b5a45d1519e6de4ad2e", func := "loop.example/lib-growingbuffers/laws.FnExactReadFrom", spec := "fnExactReadFrom", unfollowed := true, recurses := true, named := ["bytes.errNegativeRead", "io.EOF", "bytes.ErrTooLarge"], apart := false, laid := [("io.EOF", laid_io_EOF), ("bytes.ErrTooLarge", laid_bytes_ErrTooLarge), ("bytes.errNegativeRead", laid_bytes_errNegativeRead)] }
def FnExactReadFromSaid : Prop := fnExactReadFromRow.holds Tryd.pinned (OpenSpec.ofChange fnExactReadFromSpec)

/-- ITS FALSE NEIGHBOUR: 'it returns false'. Refute it at one input. -/
def fnExactReadFromWrong : ChangeSpec := { name := "fnExactReadFrom", fn := fun _ => fun
  | [d1, d2, d3, d4] => { results := [.lit (.bool false)], args := [d1, d2, d3, d4] }
  | _ => none }
def FnExactReadFromWrongFalsely : Prop := fnExactReadFromRow.holds Tryd.pinned (OpenSpec.ofChange fnExactReadFromWrong)

/-- 'laws.FnExactWriteRunes': WHATEVER THE INPUT: true; the input reads as it did. -/
def fnExactWriteRunesSpec : ChangeSpec := { name := "fnExactWriteRunes", fn := fun _ => fun
  | [d] => { results := [.lit (.bool true)], args := [d] }
  | _ => none }
def fnExactWriteRunesRow : OpenClaim := { program := "ytjppokaeepapmaadoor", sum := "d97c56c14c1b0cc2617790a25a93e8461733bccf254b7b5a45d1519e6de4ad2e", func := "loop.example/lib-growingbuffers/laws.FnExactWriteRunes", spec := "fnExactWriteRunes", named := ["bytes.ErrTooLarge"], apart := false, laid := [("bytes.ErrTooLarge", laid_bytes_ErrTooLarge)] }
def FnExactWriteRunesSaid : Prop := fnExactWriteRunesRow.holds Tryd.pinned (OpenSpec.ofChange fnExactWriteRunesSpec)

/-- ITS FALSE NEIGHBOUR: 'it returns false'. Refute it at one input. -/
def fnExactWriteRunesWrong : ChangeSpec := { name := "fnExactWriteRunes", fn := fun _ => fun
  | [d] => { results := [.lit (.bool false)], args := [d] }
  | _ => none }
def FnExactWriteRunesWrongFalsely : Prop := fnExactWriteRunesRow.holds Tryd.pinned (OpenSpec.ofChange fnExactWriteRunesWrong)

/-- 'laws.FnExactWriteWrong': WHATEVER THE INPUT: true; the input reads as it did. -/
def fnExactWriteWrongSpec : ChangeSpec := { name := "fnExactWriteWrong", fn := fun _ => fun
  | [d] => { results := [.lit (.bool true)], args := [d] }
  | _ => none }
def fnExactWriteWrongRow : OpenClaim := { program := "ytjppokaeepapmaadoor", sum := "d97c56c14c1b0cc2617790a25a93e8461733bccf254b7b5a45d1519e6de4ad2e", func := "loop.example/lib-growingbuffers/laws.FnExactWriteWrong", spec := "fnExactWriteWrong", named := ["bytes.ErrTooLarge"], apart := false, laid := [("bytes.ErrTooLarge", laid_bytes_ErrTooLarge)] }
def FnExactWriteWrongSaid : Prop := fnExactWriteWrongRow.holds Tryd.pinned (OpenSpec.ofChange fnExactWriteWrongSpec)

/-- ITS FALSE NEIGHBOUR: 'it returns false'. Refute it at one input. -/
def fnExactWriteWrongWrong : ChangeSpec := { name := "fnExactWriteWrong", fn := fun _ => fun
  | [d] => { results := [.lit (.bool false)], args := [d] }
  | _ => none }
def FnExactWriteWrongWrongFalsely : Prop := fnExactWriteWrongRow.holds Tryd.pinned (OpenSpec.ofChange fnExactWriteWrongWrong)

/-- 'laws.FnWriteRoads': WHATEVER THE INPUT: true; the input reads as it did. -/
def fnWriteRoadsSpec : ChangeSpec := { name := "fnWriteRoads", fn := fun _ => fun
  | [d] => { results := [.lit (.bool true)], args := [d] }
  | _ => none }
def fnWriteRoadsRow : OpenClaim := { program := "ytjppokaeepapmaadoor", sum := "d97c56c14c1b0cc2617790a25a93e8461733bccf254b7b5a45d1519e6de4ad2e", func := "loop.example/lib-growingbuffers/laws.FnWriteRoads", spec := "fnWriteRoads", named := ["bytes.ErrTooLarge"], apart := false, laid := [("bytes.ErrTooLarge", laid_bytes_ErrTooLarge)] }
def FnWriteRoadsSaid : Prop := fnWriteRoadsRow.holds Tryd.pinned (OpenSpec.ofChange fnWriteRoadsSpec)

/-- ITS FALSE NEIGHBOUR: 'it returns false'. Refute it at one input. -/
def fnWriteRoadsWrong : ChangeSpec := { name := "fnWriteRoads", fn := fun _ => fun
  | [d] => { results := [.lit (.bool false)], args := [d] }
  | _ => none }
def FnWriteRoadsWrongFalsely : Prop := fnWriteRoadsRow.holds Tryd.pinned (OpenSpec.ofChange fnWriteRoadsWrong)

/-- 'laws.FnRunesAscii': WHATEVER THE INPUT: true; the input reads as it did. -/
def fnRunesAsciiSpec : ChangeSpec := { name := "fnRunesAscii", fn := fun _ => fun
  | [d] => { results := [.lit (.bool true)], args := [d] }
  | _ => none }
def fnRunesAsciiRow : OpenClaim := { program := "ytjppokaeepapmaadoor", sum := "d97c56c14c1b0cc2617790a25a93e8461733bccf254b7b5a45d1519e6de4ad2e", func := "loop.example/lib-growingbuffers/laws.FnRunesAscii", spec := "fnRunesAscii", named := ["bytes.ErrTooLarge"], apart := false, laid := [("bytes.ErrTooLarge", laid_bytes_ErrTooLarge)] }
def FnRunesAsciiSaid : Prop := fnRunesAsciiRow.holds Tryd.pinned (OpenSpec.ofChange fnRunesAsciiSpec)

/-- ITS FALSE NEIGHBOUR: 'it returns false'. Refute it at one input. -/
def fnRunesAsciiWrong : ChangeSpec := { name := "fnRunesAscii", fn := fun _ => fun
  | [d] => { results := [.lit (.bool false)], args := [d] }
  | _ => none }
def FnRunesAsciiWrongFalsely : Prop := fnRunesAsciiRow.holds Tryd.pinned (OpenSpec.ofChange fnRunesAsciiWrong)

/-- 'laws.FnReadFromRoad': WHATEVER THE INPUT: true; the input reads as it did. -/
def fnReadFromRoadSpec : ChangeSpec := { name := "fnReadFromRoad", fn := fun _ => fun
  | [d] => { results := [.lit (.bool true)], args := [d] }
  | _ => none }
def fnReadFromRoadRow : OpenClaim := { program := "ytjppokaeepapmaadoor", sum := "d97c56c14c1b0cc2617790a25a93e8461733bccf254b7b5a45d1519e6de4ad2e", func := "loop.example/lib-growingbuffers/laws.FnReadFromRoad", spec := "fnReadFromRoad", unfollowed := true, recurses := true, named := ["bytes.errNegativeRead", "io.EOF", "bytes.ErrTooLarge"], apart := false, laid := [("io.EOF", laid_io_EOF), ("bytes.ErrTooLarge", laid_bytes_ErrTooLarge), ("bytes.errNegativeRead", laid_bytes_errNegativeRead)] }
def FnReadFromRoadSaid : Prop := fnReadFromRoadRow.holds Tryd.pinned (OpenSpec.ofChange fnReadFromRoadSpec)

/-- ITS FALSE NEIGHBOUR: 'it returns false'. Refute it at one input. -/
def fnReadFromRoadWrong : ChangeSpec := { name := "fnReadFromRoad", fn := fun _ => fun
  | [d] => { results := [.lit (.bool false)], args := [d] }
  | _ => none }
def FnReadFromRoadWrongFalsely : Prop := fnReadFromRoadRow.holds Tryd.pinned (OpenSpec.ofChange fnReadFromRoadWrong)

/-- 'laws.FnTruncateReset': WHATEVER THE INPUT: true; the input reads as it did. -/
def fnTruncateResetSpec : ChangeSpec := { name := "fnTruncateReset", fn := fun _ => fun
  | [d] => { results := [.lit (.bool true)], args := [d] }
  | _ => none }
def fnTruncateResetRow : OpenClaim := { program := "ytjppokaeepapmaadoor", sum := "d97c56c14c1b0cc2617790a25a93e8461733bccf254b7b5a45d1519e6de4ad2e", func := "loop.example/lib-growingbuffers/laws.FnTruncateReset", spec := "fnTruncateReset", unfollowed := true, recurses := true, named := ["bytes.ErrTooLarge"], apart := false, laid := [("bytes.ErrTooLarge", laid_bytes_ErrTooLarge)] }
def FnTruncateResetSaid : Prop := fnTruncateResetRow.holds Tryd.pinned (OpenSpec.ofChange fnTruncateResetSpec)

/-- ITS FALSE NEIGHBOUR: 'it returns false'. Refute it at one input. -/
def fnTruncateResetWrong : ChangeSpec := { name := "fnTruncateReset", fn := fun _ => fun
  | [d] => { results := [.lit (.bool false)], args := [d] }
  | _ => none }
def FnTruncateResetWrongFalsely : Prop := fnTruncateResetRow.holds Tryd.pinned (OpenSpec.ofChange fnTruncateResetWrong)

/-- 'laws.FnBuilderRoads': WHATEVER THE INPUT: true; the input reads as it did. -/
def fnBuilderRoadsSpec : ChangeSpec := { name := "fnBuilderRoads", fn := fun _ => fun
  | [d] => { results := [.lit (.bool true)], args := [d] }
  | _ => none }
def fnBuilderRoadsRow : OpenClaim := { program := "ytjppokaeepapmaadoor", sum := "d97c56c14c1b0cc2617790a25a93e8461733bccf254b7b5a45d1519e6de4ad2e", func := "loop.example/lib-growingbuffers/laws.FnBuilderRoads", spec := "fnBuilderRoads", inPlace := ["internal/abi.NoEscape"], named := ["bytes.ErrTooLarge"], apart := false, laid := [("bytes.ErrTooLarge", laid_bytes_ErrTooLarge)] }
def FnBuilderRoadsSaid : Prop := fnBuilderRoadsRow.holds Tryd.pinned (OpenSpec.ofChange fnBuilderRoadsSpec)

/-- ITS FALSE NEIGHBOUR: 'it returns false'. Refute it at one input. -/
def fnBuilderRoadsWrong : ChangeSpec := { name := "fnBuilderRoads", fn := fun _ => fun
  | [d] => { results := [.lit (.bool false)], args := [d] }
  | _ => none }
def FnBuilderRoadsWrongFalsely : Prop := fnBuilderRoadsRow.holds Tryd.pinned (OpenSpec.ofChange fnBuilderRoadsWrong)

/-- 'laws.FnGrowKeeps': WHATEVER THE INPUT: true; the input reads as it did. -/
def fnGrowKeepsSpec : ChangeSpec := { name := "fnGrowKeeps", fn := fun _ => fun
  | [d] => { results := [.lit (.bool true)], args := [d] }
  | _ => none }
def fnGrowKeepsRow : OpenClaim := { program := "ytjppokaeepapmaadoor", sum := "d97c56c14c1b0cc2617790a25a93e8461733bccf254b7b5a45d1519e6de4ad2e", func := "loop.example/lib-growingbuffers/laws.FnGrowKeeps", spec := "fnGrowKeeps", inPlace := ["internal/abi.NoEscape", "internal/bytealg.MakeNoZero"], unfollowed := true, recurses := true, named := ["bytes.ErrTooLarge"], apart := false, laid := [("bytes.ErrTooLarge", laid_bytes_ErrTooLarge)] }
def FnGrowKeepsSaid : Prop := fnGrowKeepsRow.holds Tryd.pinned (OpenSpec.ofChange fnGrowKeepsSpec)

/-- ITS FALSE NEIGHBOUR: 'it returns false'. Refute it at one input. -/
def fnGrowKeepsWrong : ChangeSpec := { name := "fnGrowKeeps", fn := fun _ => fun
  | [d] => { results := [.lit (.bool false)], args := [d] }
  | _ => none }
def FnGrowKeepsWrongFalsely : Prop := fnGrowKeepsRow.holds Tryd.pinned (OpenSpec.ofChange fnGrowKeepsWrong)

/-- 'laws.FnBuilderRunes': WHATEVER THE INPUT: true; the input reads as it did. -/
def fnBuilderRunesSpec : ChangeSpec := { name := "fnBuilderRunes", fn := fun _ => fun
  | [d] => { results := [.lit (.bool true)], args := [d] }
  | _ => none }
def fnBuilderRunesRow : OpenClaim := { program := "ytjppokaeepapmaadoor", sum := "d97c56c14c1b0cc2617790a25a93e8461733bccf254b7b5a45d1519e6de4ad2e", func := "loop.example/lib-growingbuffers/laws.FnBuilderRunes", spec := "fnBuilderRunes", inPlace := ["internal/abi.NoEscape"], named := ["bytes.ErrTooLarge"], apart := false, laid := [("bytes.ErrTooLarge", laid_bytes_ErrTooLarge)] }
def FnBuilderRunesSaid : Prop := fnBuilderRunesRow.holds Tryd.pinned (OpenSpec.ofChange fnBuilderRunesSpec)

/-- ITS FALSE NEIGHBOUR: 'it returns false'. Refute it at one input. -/
def fnBuilderRunesWrong : ChangeSpec := { name := "fnBuilderRunes", fn := fun _ => fun
  | [d] => { results := [.lit (.bool false)], args := [d] }
  | _ => none }
def FnBuilderRunesWrongFalsely : Prop := fnBuilderRunesRow.holds Tryd.pinned (OpenSpec.ofChange fnBuilderRunesWrong)

/- THE SECOND FORM. 'bulk': how many values and letters a reading holds, each counted each time it is reached (what is shared counts as often as it is met; a slice's spare places count too). A statement '..UptoSaid' is the law's where the arguments, and the package variables that the reading takes, are together of bulk at most 1048576: NARROWER than '..Said'. Prove '..Said' where nothing that the law and all that it calls make is longer than what came in: it says more and counts as full. Else prove '..UptoSaid'. A law counts once. -/
mutual
def uptoBulk {H : Type} : DataW H → Nat
  | .lit (.string bytes) => bytes.length + 1
  | .lit _ => 1
  | .nil => 1
  | .ptr d => uptoBulk d + 1
  | .slice elems spare => uptoBulkAll elems + uptoBulkAll spare + 1
  | .agg parts => uptoBulkAll parts + 1
  | .iface _ d => uptoBulk d + 1
  | .map entries => uptoBulkEntries entries + 1
  | .held _ => 1
def uptoBulkAll {H : Type} : List (DataW H) → Nat
  | [] => 0
  | d :: r => uptoBulk d + uptoBulkAll r
def uptoBulkEntries {H : Type} : List (Lit × DataW H) → Nat
  | [] => 0
  | x :: r => uptoBulkEntry x + uptoBulkEntries r
def uptoBulkEntry {H : Type} : Lit × DataW H → Nat
  | (.string bytes, d) => bytes.length + uptoBulk d + 1
  | (_, d) => uptoBulk d + 1
 end
def uptoSmall : (H : Type) → List (DataW H) → Bool := fun _ ds => decide (uptoBulkAll ds ≤ 1048576)
def OpenSpec.upto (s : _root_.Go.ChangeSpec) : _root_.Go.OpenSpec := { _root_.Go.OpenSpec.ofChange s with cond := some uptoSmall }

/-- 'laws.FnExactGrowText', WHERE WHAT IT READS IS OF BULK AT MOST 1048576: true; the input reads as it did. -/
def fnExactGrowTextUptoRow : OpenClaim := { program := "ytjppokaeepapmaadoor", sum := "d97c56c14c1b0cc2617790a25a93e8461733bccf254b7b5a45d1519e6de4ad2e", func := "loop.example/lib-growingbuffers/laws.FnExactGrowText", spec := "fnExactGrowText", unfollowed := true, recurses := true, named := ["bytes.ErrTooLarge"], apart := false, laid := [("bytes.ErrTooLarge", laid_bytes_ErrTooLarge)], narrowed := true }
def FnExactGrowTextUptoSaid : Prop := fnExactGrowTextUptoRow.holds Tryd.pinned (OpenSpec.upto fnExactGrowTextSpec)

/-- 'laws.FnSpace', WHERE WHAT IT READS IS OF BULK AT MOST 1048576: true; the input reads as it did. -/
def fnSpaceUptoRow : OpenClaim := { program := "ytjppokaeepapmaadoor", sum := "d97c56c14c1b0cc2617790a25a93e8461733bccf254b7b5a45d1519e6de4ad2e", func := "loop.example/lib-growingbuffers/laws.FnSpace", spec := "fnSpace", unfollowed := true, recurses := true, named := ["bytes.ErrTooLarge"], apart := false, laid := [("bytes.ErrTooLarge", laid_bytes_ErrTooLarge)], narrowed := true }
def FnSpaceUptoSaid : Prop := fnSpaceUptoRow.holds Tryd.pinned (OpenSpec.upto fnSpaceSpec)

/-- 'laws.FnExactReadFrom', WHERE WHAT IT READS IS OF BULK AT MOST 1048576: true; the input reads as it did. -/
def fnExactReadFromUptoRow : OpenClaim := { program := "ytjppokaeepapmaadoor", sum := "d97c56c14c1b0cc2617790a25a93e8461733bccf254b7b5a45d1519e6de4ad2e", func := "loop.example/lib-growingbuffers/laws.FnExactReadFrom", spec := "fnExactReadFrom", unfollowed := true, recurses := true, named := ["bytes.errNegativeRead", "io.EOF", "bytes.ErrTooLarge"], apart := false, laid := [("io.EOF", laid_io_EOF), ("bytes.ErrTooLarge", laid_bytes_ErrTooLarge), ("bytes.errNegativeRead", laid_bytes_errNegativeRead)], narrowed := true }
def FnExactReadFromUptoSaid : Prop := fnExactReadFromUptoRow.holds Tryd.pinned (OpenSpec.upto fnExactReadFromSpec)

/-- 'laws.FnExactWriteRunes', WHERE WHAT IT READS IS OF BULK AT MOST 1048576: true; the input reads as it did. -/
def fnExactWriteRunesUptoRow : OpenClaim := { program := "ytjppokaeepapmaadoor", sum := "d97c56c14c1b0cc2617790a25a93e8461733bccf254b7b5a45d1519e6de4ad2e", func := "loop.example/lib-growingbuffers/laws.FnExactWriteRunes", spec := "fnExactWriteRunes", named := ["bytes.ErrTooLarge"], apart := false, laid := [("bytes.ErrTooLarge", laid_bytes_ErrTooLarge)], narrowed := true }
def FnExactWriteRunesUptoSaid : Prop := fnExactWriteRunesUptoRow.holds Tryd.pinned (OpenSpec.upto fnExactWriteRunesSpec)

/-- 'laws.FnExactWriteWrong', WHERE WHAT IT READS IS OF BULK AT MOST 1048576: true; the input reads as it did. -/
def fnExactWriteWrongUptoRow : OpenClaim := { program := "ytjppokaeepapmaadoor", sum := "d97c56c14c1b0cc2617790a25a93e8461733bccf254b7b5a45d1519e6de4ad2e", func := "loop.example/lib-growingbuffers/laws.FnExactWriteWrong", spec := "fnExactWriteWrong", named := ["bytes.ErrTooLarge"], apart := false, laid := [("bytes.ErrTooLarge", laid_bytes_ErrTooLarge)], narrowed := true }
def FnExactWriteWrongUptoSaid : Prop := fnExactWriteWrongUptoRow.holds Tryd.pinned (OpenSpec.upto fnExactWriteWrongSpec)

/-- 'laws.FnWriteRoads', WHERE WHAT IT READS IS OF BULK AT MOST 1048576: true; the input reads as it did. -/
def fnWriteRoadsUptoRow : OpenClaim := { program := "ytjppokaeepapmaadoor", sum := "d97c56c14c1b0cc2617790a25a93e8461733bccf254b7b5a45d1519e6de4ad2e", func := "loop.example/lib-growingbuffers/laws.FnWriteRoads", spec := "fnWriteRoads", named := ["bytes.ErrTooLarge"], apart := false, laid := [("bytes.ErrTooLarge", laid_bytes_ErrTooLarge)], narrowed := true }
def FnWriteRoadsUptoSaid : Prop := fnWriteRoadsUptoRow.holds Tryd.pinned (OpenSpec.upto fnWriteRoadsSpec)

/-- 'laws.FnRunesAscii', WHERE WHAT IT READS IS OF BULK AT MOST 1048576: true; the input reads as it did. -/
def fnRunesAsciiUptoRow : OpenClaim := { program := "ytjppokaeepapmaadoor", sum := "d97c56c14c1b0cc2617790a25a93e8461733bccf254b7b5a45d1519e6de4ad2e", func := "loop.example/lib-growingbuffers/laws.FnRunesAscii", spec := "fnRunesAscii", named := ["bytes.ErrTooLarge"], apart := false, laid := [("bytes.ErrTooLarge", laid_bytes_ErrTooLarge)], narrowed := true }
def FnRunesAsciiUptoSaid : Prop := fnRunesAsciiUptoRow.holds Tryd.pinned (OpenSpec.upto fnRunesAsciiSpec)

/-- 'laws.FnReadFromRoad', WHERE WHAT IT READS IS OF BULK AT MOST 1048576: true; the input reads as it did. -/
def fnReadFromRoadUptoRow : OpenClaim := { program := "ytjppokaeepapmaadoor", sum := "d97c56c14c1b0cc2617790a25a93e8461733bccf254b7b5a45d1519e6de4ad2e", func := "loop.example/lib-growingbuffers/laws.FnReadFromRoad", spec := "fnReadFromRoad", unfollowed := true, recurses := true, named := ["bytes.errNegativeRead", "io.EOF", "bytes.ErrTooLarge"], apart := false, laid := [("io.EOF", laid_io_EOF), ("bytes.ErrTooLarge", laid_bytes_ErrTooLarge), ("bytes.errNegativeRead", laid_bytes_errNegativeRead)], narrowed := true }
def FnReadFromRoadUptoSaid : Prop := fnReadFromRoadUptoRow.holds Tryd.pinned (OpenSpec.upto fnReadFromRoadSpec)

/-- 'laws.FnTruncateReset', WHERE WHAT IT READS IS OF BULK AT MOST 1048576: true; the input reads as it did. -/
def fnTruncateResetUptoRow : OpenClaim := { program := "ytjppokaeepapmaadoor", sum := "d97c56c14c1b0cc2617790a25a93e8461733bccf254b7b5a45d1519e6de4ad2e", func := "loop.example/lib-growingbuffers/laws.FnTruncateReset", spec := "fnTruncateReset", unfollowed := true, recurses := true, named := ["bytes.ErrTooLarge"], apart := false, laid := [("bytes.ErrTooLarge", laid_bytes_ErrTooLarge)], narrowed := true }
def FnTruncateResetUptoSaid : Prop := fnTruncateResetUptoRow.holds Tryd.pinned (OpenSpec.upto fnTruncateResetSpec)

/-- 'laws.FnBuilderRoads', WHERE WHAT IT READS IS OF BULK AT MOST 1048576: true; the input reads as it did. -/
def fnBuilderRoadsUptoRow : OpenClaim := { program := "ytjppokaeepapmaadoor", sum := "d97c56c14c1b0cc2617790a25a93e8461733bccf254b7b5a45d1519e6de4ad2e", func := "loop.example/lib-growingbuffers/laws.FnBuilderRoads", spec := "fnBuilderRoads", inPlace := ["internal/abi.NoEscape"], named := ["bytes.ErrTooLarge"], apart := false, laid := [("bytes.ErrTooLarge", laid_bytes_ErrTooLarge)], narrowed := true }
def FnBuilderRoadsUptoSaid : Prop := fnBuilderRoadsUptoRow.holds Tryd.pinned (OpenSpec.upto fnBuilderRoadsSpec)

/-- 'laws.FnGrowKeeps', WHERE WHAT IT READS IS OF BULK AT MOST 1048576: true; the input reads as it did. -/
def fnGrowKeepsUptoRow : OpenClaim := { program := "ytjppokaeepapmaadoor", sum := "d97c56c14c1b0cc2617790a25a93e8461733bccf254b7b5a45d1519e6de4ad2e", func := "loop.example/lib-growingbuffers/laws.FnGrowKeeps", spec := "fnGrowKeeps", inPlace := ["internal/abi.NoEscape", "internal/bytealg.MakeNoZero"], unfollowed := true, recurses := true, named := ["bytes.ErrTooLarge"], apart := false, laid := [("bytes.ErrTooLarge", laid_bytes_ErrTooLarge)], narrowed := true }
def FnGrowKeepsUptoSaid : Prop := fnGrowKeepsUptoRow.holds Tryd.pinned (OpenSpec.upto fnGrowKeepsSpec)

/-- 'laws.FnBuilderRunes', WHERE WHAT IT READS IS OF BULK AT MOST 1048576: true; the input reads as it did. -/
def fnBuilderRunesUptoRow : OpenClaim := { program := "ytjppokaeepapmaadoor", sum := "d97c56c14c1b0cc2617790a25a93e8461733bccf254b7b5a45d1519e6de4ad2e", func := "loop.example/lib-growingbuffers/laws.FnBuilderRunes", spec := "fnBuilderRunes", inPlace := ["internal/abi.NoEscape"], named := ["bytes.ErrTooLarge"], apart := false, laid := [("bytes.ErrTooLarge", laid_bytes_ErrTooLarge)], narrowed := true }
def FnBuilderRunesUptoSaid : Prop := fnBuilderRunesUptoRow.holds Tryd.pinned (OpenSpec.upto fnBuilderRunesSpec)

end Rows
end Go.Proofs.YtjppokaeepapmaaDoor
