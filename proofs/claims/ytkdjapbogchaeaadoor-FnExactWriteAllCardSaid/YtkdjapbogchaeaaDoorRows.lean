/-
  NARROWER THAN 'FOR EVERY INPUT', by the rows' own cells (each row's printed sentence says how): FnExactWriteAll: laid · FnWriteToRoad: laid · FnExactWriteSingles: laid · FnExactWriteFree: laid · FnExactWriteSlices: laid · FnExactWriteStrings: laid · FnWriteCounts: laid · FnWriteTwice: laid · FnExactGrowAndWrite: laid · FnWriteFreeRoad: laid · FnExactReset: laid · FnExactGrow: laid.
  DERIVED. THE GIVEN ROWS OF THIS SEAT. 12 by the template 'for every input the law returns true; each argument reads behind the call as it read before'; 0 by the template 'total and deterministic' (their statements: YtkdjapbogchaeaaDoorTotals.lean).
  GIVEN WITH THE SEED: the statements are not yours to turn. If you find one false, say at which input.
  Laid BY PROGRAM, IN A SANDBOX (cutbox-rows.mjs): the forced cells as the released guide's own fill.sh prints them over the translation ca6592ad84cac3b6… (all of the seat's roots in one cut). By AI agents, Wed Nov 11 2026. No macro, syntax, notation, axiom, sorry.
-/
import Derived.Test.YtkdjapbogchaeaaDoorChecked
import GoSem.Claim
import GoSem.ClaimJoined
import GoSem.ClaimMapViews
import Derived.JoinedTies
import Derived.KernelRfl
namespace Go.Proofs.YtkdjapbogchaeaaDoor
/- THE CELL 'sum', in the pinned program and in every row, IS THE sha256 OF THE DUMP (.gsa) THAT YtkdjapbogchaeaaDoorProg.lean LOADS. Nothing in Lean hashes anything: it is a label: what it is worth is what the hold of that sum in a sandbox is worth. -/
noncomputable def Tryd.pinned : Pinned := { name := "ytkdjapbogchaeaadoor", sum := "ca6592ad84cac3b68612243557aac878c3e4774c4b2edb28e1fc3200c420bb95", checked := Tryd.checked }
namespace Rows
def none {H : Type} : Left H := { results := [], args := [] }

/- WHAT THE LISTED PACKAGE-LEVEL VARIABLES READ AS WHEN THE CALL BEGINS. Each datum BY PROGRAM (the guide's laid-datum.mjs) off the statement by which the dump's own 'gosem.cut.vars' lays the variable. In a bare row this is a premise. The card (YtkdjapbogchaeaaDoorCards.lean) ties it to the program's text. -/
def laid_io_ErrShortWrite {H : Type} : DataW H := .iface "*errors.errorString" (.ptr (.agg [.lit (.string [115, 104, 111, 114, 116, 32, 119, 114, 105, 116, 101])]))
def laid_bytes_ErrTooLarge {H : Type} : DataW H := .iface "*errors.errorString" (.ptr (.agg [.lit (.string [98, 121, 116, 101, 115, 46, 66, 117, 102, 102, 101, 114, 58, 32, 116, 111, 111, 32, 108, 97, 114, 103, 101])]))

/-- 'laws.FnExactWriteAll': WHATEVER THE INPUT: true; the input reads as it did. -/
def fnExactWriteAllSpec : ChangeSpec := { name := "fnExactWriteAll", fn := fun _ => fun
  | [d1, d2] => { results := [.lit (.bool true)], args := [d1, d2] }
  | _ => none }
def fnExactWriteAllRow : OpenClaim := { program := "ytkdjapbogchaeaadoor", sum := "ca6592ad84cac3b68612243557aac878c3e4774c4b2edb28e1fc3200c420bb95", func := "loop.example/lib-growingbuffers/laws.FnExactWriteAll", spec := "fnExactWriteAll", unfollowed := true, recurses := true, named := ["io.ErrShortWrite"], apart := false, laid := [("io.ErrShortWrite", laid_io_ErrShortWrite)] }
def FnExactWriteAllSaid : Prop := fnExactWriteAllRow.holds Tryd.pinned (OpenSpec.ofChange fnExactWriteAllSpec)

/-- ITS FALSE NEIGHBOUR: 'it returns false'. Refute it at one input. -/
def fnExactWriteAllWrong : ChangeSpec := { name := "fnExactWriteAll", fn := fun _ => fun
  | [d1, d2] => { results := [.lit (.bool false)], args := [d1, d2] }
  | _ => none }
def FnExactWriteAllWrongFalsely : Prop := fnExactWriteAllRow.holds Tryd.pinned (OpenSpec.ofChange fnExactWriteAllWrong)

/-- 'laws.FnWriteToRoad': WHATEVER THE INPUT: true; the input reads as it did. -/
def fnWriteToRoadSpec : ChangeSpec := { name := "fnWriteToRoad", fn := fun _ => fun
  | [d] => { results := [.lit (.bool true)], args := [d] }
  | _ => none }
def fnWriteToRoadRow : OpenClaim := { program := "ytkdjapbogchaeaadoor", sum := "ca6592ad84cac3b68612243557aac878c3e4774c4b2edb28e1fc3200c420bb95", func := "loop.example/lib-growingbuffers/laws.FnWriteToRoad", spec := "fnWriteToRoad", unfollowed := true, recurses := true, named := ["io.ErrShortWrite"], apart := false, laid := [("io.ErrShortWrite", laid_io_ErrShortWrite)] }
def FnWriteToRoadSaid : Prop := fnWriteToRoadRow.holds Tryd.pinned (OpenSpec.ofChange fnWriteToRoadSpec)

/-- ITS FALSE NEIGHBOUR: 'it returns false'. Refute it at one input. -/
def fnWriteToRoadWrong : ChangeSpec := { name := "fnWriteToRoad", fn := fun _ => fun
  | [d] => { results := [.lit (.bool false)], args := [d] }
  | _ => none }
def FnWriteToRoadWrongFalsely : Prop := fnWriteToRoadRow.holds Tryd.pinned (OpenSpec.ofChange fnWriteToRoadWrong)

/-- 'laws.FnExactWriteSingles': WHATEVER THE INPUT: true; the input reads as it did. -/
def fnExactWriteSinglesSpec : ChangeSpec := { name := "fnExactWriteSingles", fn := fun _ => fun
  | [d] => { results := [.lit (.bool true)], args := [d] }
  | _ => none }
def fnExactWriteSinglesRow : OpenClaim := { program := "ytkdjapbogchaeaadoor", sum := "ca6592ad84cac3b68612243557aac878c3e4774c4b2edb28e1fc3200c420bb95", func := "loop.example/lib-growingbuffers/laws.FnExactWriteSingles", spec := "fnExactWriteSingles", named := ["bytes.ErrTooLarge"], apart := false, laid := [("bytes.ErrTooLarge", laid_bytes_ErrTooLarge)] }
def FnExactWriteSinglesSaid : Prop := fnExactWriteSinglesRow.holds Tryd.pinned (OpenSpec.ofChange fnExactWriteSinglesSpec)

/-- ITS FALSE NEIGHBOUR: 'it returns false'. Refute it at one input. -/
def fnExactWriteSinglesWrong : ChangeSpec := { name := "fnExactWriteSingles", fn := fun _ => fun
  | [d] => { results := [.lit (.bool false)], args := [d] }
  | _ => none }
def FnExactWriteSinglesWrongFalsely : Prop := fnExactWriteSinglesRow.holds Tryd.pinned (OpenSpec.ofChange fnExactWriteSinglesWrong)

/-- 'laws.FnExactWriteFree': WHATEVER THE INPUT: true; the input reads as it did. -/
def fnExactWriteFreeSpec : ChangeSpec := { name := "fnExactWriteFree", fn := fun _ => fun
  | [d1, d2] => { results := [.lit (.bool true)], args := [d1, d2] }
  | _ => none }
def fnExactWriteFreeRow : OpenClaim := { program := "ytkdjapbogchaeaadoor", sum := "ca6592ad84cac3b68612243557aac878c3e4774c4b2edb28e1fc3200c420bb95", func := "loop.example/lib-growingbuffers/laws.FnExactWriteFree", spec := "fnExactWriteFree", named := ["bytes.ErrTooLarge"], apart := false, laid := [("bytes.ErrTooLarge", laid_bytes_ErrTooLarge)] }
def FnExactWriteFreeSaid : Prop := fnExactWriteFreeRow.holds Tryd.pinned (OpenSpec.ofChange fnExactWriteFreeSpec)

/-- ITS FALSE NEIGHBOUR: 'it returns false'. Refute it at one input. -/
def fnExactWriteFreeWrong : ChangeSpec := { name := "fnExactWriteFree", fn := fun _ => fun
  | [d1, d2] => { results := [.lit (.bool false)], args := [d1, d2] }
  | _ => none }
def FnExactWriteFreeWrongFalsely : Prop := fnExactWriteFreeRow.holds Tryd.pinned (OpenSpec.ofChange fnExactWriteFreeWrong)

/-- 'laws.FnExactWriteSlices': WHATEVER THE INPUT: true; the input reads as it did. -/
def fnExactWriteSlicesSpec : ChangeSpec := { name := "fnExactWriteSlices", fn := fun _ => fun
  | [d1, d2] => { results := [.lit (.bool true)], args := [d1, d2] }
  | _ => none }
def fnExactWriteSlicesRow : OpenClaim := { program := "ytkdjapbogchaeaadoor", sum := "ca6592ad84cac3b68612243557aac878c3e4774c4b2edb28e1fc3200c420bb95", func := "loop.example/lib-growingbuffers/laws.FnExactWriteSlices", spec := "fnExactWriteSlices", named := ["bytes.ErrTooLarge"], apart := false, laid := [("bytes.ErrTooLarge", laid_bytes_ErrTooLarge)] }
def FnExactWriteSlicesSaid : Prop := fnExactWriteSlicesRow.holds Tryd.pinned (OpenSpec.ofChange fnExactWriteSlicesSpec)

/-- ITS FALSE NEIGHBOUR: 'it returns false'. Refute it at one input. -/
def fnExactWriteSlicesWrong : ChangeSpec := { name := "fnExactWriteSlices", fn := fun _ => fun
  | [d1, d2] => { results := [.lit (.bool false)], args := [d1, d2] }
  | _ => none }
def FnExactWriteSlicesWrongFalsely : Prop := fnExactWriteSlicesRow.holds Tryd.pinned (OpenSpec.ofChange fnExactWriteSlicesWrong)

/-- 'laws.FnExactWriteStrings': WHATEVER THE INPUT: true; the input reads as it did. -/
def fnExactWriteStringsSpec : ChangeSpec := { name := "fnExactWriteStrings", fn := fun _ => fun
  | [d1, d2] => { results := [.lit (.bool true)], args := [d1, d2] }
  | _ => none }
def fnExactWriteStringsRow : OpenClaim := { program := "ytkdjapbogchaeaadoor", sum := "ca6592ad84cac3b68612243557aac878c3e4774c4b2edb28e1fc3200c420bb95", func := "loop.example/lib-growingbuffers/laws.FnExactWriteStrings", spec := "fnExactWriteStrings", named := ["bytes.ErrTooLarge"], apart := false, laid := [("bytes.ErrTooLarge", laid_bytes_ErrTooLarge)] }
def FnExactWriteStringsSaid : Prop := fnExactWriteStringsRow.holds Tryd.pinned (OpenSpec.ofChange fnExactWriteStringsSpec)

/-- ITS FALSE NEIGHBOUR: 'it returns false'. Refute it at one input. -/
def fnExactWriteStringsWrong : ChangeSpec := { name := "fnExactWriteStrings", fn := fun _ => fun
  | [d1, d2] => { results := [.lit (.bool false)], args := [d1, d2] }
  | _ => none }
def FnExactWriteStringsWrongFalsely : Prop := fnExactWriteStringsRow.holds Tryd.pinned (OpenSpec.ofChange fnExactWriteStringsWrong)

/-- 'laws.FnWriteCounts': WHATEVER THE INPUT: true; the input reads as it did. -/
def fnWriteCountsSpec : ChangeSpec := { name := "fnWriteCounts", fn := fun _ => fun
  | [d] => { results := [.lit (.bool true)], args := [d] }
  | _ => none }
def fnWriteCountsRow : OpenClaim := { program := "ytkdjapbogchaeaadoor", sum := "ca6592ad84cac3b68612243557aac878c3e4774c4b2edb28e1fc3200c420bb95", func := "loop.example/lib-growingbuffers/laws.FnWriteCounts", spec := "fnWriteCounts", named := ["bytes.ErrTooLarge"], apart := false, laid := [("bytes.ErrTooLarge", laid_bytes_ErrTooLarge)] }
def FnWriteCountsSaid : Prop := fnWriteCountsRow.holds Tryd.pinned (OpenSpec.ofChange fnWriteCountsSpec)

/-- ITS FALSE NEIGHBOUR: 'it returns false'. Refute it at one input. -/
def fnWriteCountsWrong : ChangeSpec := { name := "fnWriteCounts", fn := fun _ => fun
  | [d] => { results := [.lit (.bool false)], args := [d] }
  | _ => none }
def FnWriteCountsWrongFalsely : Prop := fnWriteCountsRow.holds Tryd.pinned (OpenSpec.ofChange fnWriteCountsWrong)

/-- 'laws.FnWriteTwice': WHATEVER THE INPUT: true; the input reads as it did. -/
def fnWriteTwiceSpec : ChangeSpec := { name := "fnWriteTwice", fn := fun _ => fun
  | [d] => { results := [.lit (.bool true)], args := [d] }
  | _ => none }
def fnWriteTwiceRow : OpenClaim := { program := "ytkdjapbogchaeaadoor", sum := "ca6592ad84cac3b68612243557aac878c3e4774c4b2edb28e1fc3200c420bb95", func := "loop.example/lib-growingbuffers/laws.FnWriteTwice", spec := "fnWriteTwice", named := ["bytes.ErrTooLarge"], apart := false, laid := [("bytes.ErrTooLarge", laid_bytes_ErrTooLarge)] }
def FnWriteTwiceSaid : Prop := fnWriteTwiceRow.holds Tryd.pinned (OpenSpec.ofChange fnWriteTwiceSpec)

/-- ITS FALSE NEIGHBOUR: 'it returns false'. Refute it at one input. -/
def fnWriteTwiceWrong : ChangeSpec := { name := "fnWriteTwice", fn := fun _ => fun
  | [d] => { results := [.lit (.bool false)], args := [d] }
  | _ => none }
def FnWriteTwiceWrongFalsely : Prop := fnWriteTwiceRow.holds Tryd.pinned (OpenSpec.ofChange fnWriteTwiceWrong)

/-- 'laws.FnExactGrowAndWrite': WHATEVER THE INPUT: true; the input reads as it did. -/
def fnExactGrowAndWriteSpec : ChangeSpec := { name := "fnExactGrowAndWrite", fn := fun _ => fun
  | [d1, d2, d3] => { results := [.lit (.bool true)], args := [d1, d2, d3] }
  | _ => none }
def fnExactGrowAndWriteRow : OpenClaim := { program := "ytkdjapbogchaeaadoor", sum := "ca6592ad84cac3b68612243557aac878c3e4774c4b2edb28e1fc3200c420bb95", func := "loop.example/lib-growingbuffers/laws.FnExactGrowAndWrite", spec := "fnExactGrowAndWrite", named := ["bytes.ErrTooLarge"], apart := false, laid := [("bytes.ErrTooLarge", laid_bytes_ErrTooLarge)] }
def FnExactGrowAndWriteSaid : Prop := fnExactGrowAndWriteRow.holds Tryd.pinned (OpenSpec.ofChange fnExactGrowAndWriteSpec)

/-- ITS FALSE NEIGHBOUR: 'it returns false'. Refute it at one input. -/
def fnExactGrowAndWriteWrong : ChangeSpec := { name := "fnExactGrowAndWrite", fn := fun _ => fun
  | [d1, d2, d3] => { results := [.lit (.bool false)], args := [d1, d2, d3] }
  | _ => none }
def FnExactGrowAndWriteWrongFalsely : Prop := fnExactGrowAndWriteRow.holds Tryd.pinned (OpenSpec.ofChange fnExactGrowAndWriteWrong)

/-- 'laws.FnWriteFreeRoad': WHATEVER THE INPUT: true; the input reads as it did. -/
def fnWriteFreeRoadSpec : ChangeSpec := { name := "fnWriteFreeRoad", fn := fun _ => fun
  | [d] => { results := [.lit (.bool true)], args := [d] }
  | _ => none }
def fnWriteFreeRoadRow : OpenClaim := { program := "ytkdjapbogchaeaadoor", sum := "ca6592ad84cac3b68612243557aac878c3e4774c4b2edb28e1fc3200c420bb95", func := "loop.example/lib-growingbuffers/laws.FnWriteFreeRoad", spec := "fnWriteFreeRoad", named := ["bytes.ErrTooLarge"], apart := false, laid := [("bytes.ErrTooLarge", laid_bytes_ErrTooLarge)] }
def FnWriteFreeRoadSaid : Prop := fnWriteFreeRoadRow.holds Tryd.pinned (OpenSpec.ofChange fnWriteFreeRoadSpec)

/-- ITS FALSE NEIGHBOUR: 'it returns false'. Refute it at one input. -/
def fnWriteFreeRoadWrong : ChangeSpec := { name := "fnWriteFreeRoad", fn := fun _ => fun
  | [d] => { results := [.lit (.bool false)], args := [d] }
  | _ => none }
def FnWriteFreeRoadWrongFalsely : Prop := fnWriteFreeRoadRow.holds Tryd.pinned (OpenSpec.ofChange fnWriteFreeRoadWrong)

/-- 'laws.FnExactReset': WHATEVER THE INPUT: true; the input reads as it did. -/
def fnExactResetSpec : ChangeSpec := { name := "fnExactReset", fn := fun _ => fun
  | [d1, d2, d3] => { results := [.lit (.bool true)], args := [d1, d2, d3] }
  | _ => none }
def fnExactResetRow : OpenClaim := { program := "ytkdjapbogchaeaadoor", sum := "ca6592ad84cac3b68612243557aac878c3e4774c4b2edb28e1fc3200c420bb95", func := "loop.example/lib-growingbuffers/laws.FnExactReset", spec := "fnExactReset", named := ["bytes.ErrTooLarge"], apart := false, laid := [("bytes.ErrTooLarge", laid_bytes_ErrTooLarge)] }
def FnExactResetSaid : Prop := fnExactResetRow.holds Tryd.pinned (OpenSpec.ofChange fnExactResetSpec)

/-- ITS FALSE NEIGHBOUR: 'it returns false'. Refute it at one input. -/
def fnExactResetWrong : ChangeSpec := { name := "fnExactReset", fn := fun _ => fun
  | [d1, d2, d3] => { results := [.lit (.bool false)], args := [d1, d2, d3] }
  | _ => none }
def FnExactResetWrongFalsely : Prop := fnExactResetRow.holds Tryd.pinned (OpenSpec.ofChange fnExactResetWrong)

/-- 'laws.FnExactGrow': WHATEVER THE INPUT: true; the input reads as it did. -/
def fnExactGrowSpec : ChangeSpec := { name := "fnExactGrow", fn := fun _ => fun
  | [d1, d2] => { results := [.lit (.bool true)], args := [d1, d2] }
  | _ => none }
def fnExactGrowRow : OpenClaim := { program := "ytkdjapbogchaeaadoor", sum := "ca6592ad84cac3b68612243557aac878c3e4774c4b2edb28e1fc3200c420bb95", func := "loop.example/lib-growingbuffers/laws.FnExactGrow", spec := "fnExactGrow", unfollowed := true, recurses := true, named := ["bytes.ErrTooLarge"], apart := false, laid := [("bytes.ErrTooLarge", laid_bytes_ErrTooLarge)] }
def FnExactGrowSaid : Prop := fnExactGrowRow.holds Tryd.pinned (OpenSpec.ofChange fnExactGrowSpec)

/-- ITS FALSE NEIGHBOUR: 'it returns false'. Refute it at one input. -/
def fnExactGrowWrong : ChangeSpec := { name := "fnExactGrow", fn := fun _ => fun
  | [d1, d2] => { results := [.lit (.bool false)], args := [d1, d2] }
  | _ => none }
def FnExactGrowWrongFalsely : Prop := fnExactGrowRow.holds Tryd.pinned (OpenSpec.ofChange fnExactGrowWrong)

/- THE SECOND FORM. 'bulk': how many values and letters a reading holds, each counted each time it is reached (what is shared counts as often as it is met; a slice's spare places count too). A statement '..UptoSaid' is the law's where the arguments, and the package variables that the reading takes, are together of bulk at most 1048576: NARROWER than '..Said'. Prove '..Said' where nothing that the law and all that it calls make is longer than what came in: it says more and counts as full. Else prove '..UptoSaid'. A law counts once. -/
mutual
def uptoBulk {H : Type} : DataW H → Nat
  | .lit (.string bytes) => bytes.length + 1
  | .lit _ => 1
  | .nil => 1
  | .ptr d => uptoBulk d + 1
  | .slice elems spare => uptoBulkAll elems + uptoBulkAll spare + 1
  | .agg parts => uptoBulkAll parts + 1
  | .iface _ d => uptoBulk d + 1
  | .map entries => uptoBulkEntries entries + 1
  | .held _ => 1
def uptoBulkAll {H : Type} : List (DataW H) → Nat
  | [] => 0
  | d :: r => uptoBulk d + uptoBulkAll r
def uptoBulkEntries {H : Type} : List (Lit × DataW H) → Nat
  | [] => 0
  | x :: r => uptoBulkEntry x + uptoBulkEntries r
def uptoBulkEntry {H : Type} : Lit × DataW H → Nat
  | (.string bytes, d) => bytes.length + uptoBulk d + 1
  | (_, d) => uptoBulk d + 1
 end
def uptoSmall : (H : Type) → List (DataW H) → Bool := fun _ ds => decide (uptoBulkAll ds ≤ 1048576)
def OpenSpec.upto (s : _root_.Go.ChangeSpec) : _root_.Go.OpenSpec := { _root_.Go.OpenSpec.ofChange s with cond := some uptoSmall }

/-- 'laws.FnExactWriteAll', WHERE WHAT IT READS IS OF BULK AT MOST 1048576: true; the input reads as it did. -/
def fnExactWriteAllUptoRow : OpenClaim := { program := "ytkdjapbogchaeaadoor", sum := "ca6592ad84cac3b68612243557aac878c3e4774c4b2edb28e1fc3200c420bb95", func := "loop.example/lib-growingbuffers/laws.FnExactWriteAll", spec := "fnExactWriteAll", unfollowed := true, recurses := true, named := ["io.ErrShortWrite"], apart := false, laid := [("io.ErrShortWrite", laid_io_ErrShortWrite)], narrowed := true }
def FnExactWriteAllUptoSaid : Prop := fnExactWriteAllUptoRow.holds Tryd.pinned (OpenSpec.upto fnExactWriteAllSpec)

/-- 'laws.FnWriteToRoad', WHERE WHAT IT READS IS OF BULK AT MOST 1048576: true; the input reads as it did. -/
def fnWriteToRoadUptoRow : OpenClaim := { program := "ytkdjapbogchaeaadoor", sum := "ca6592ad84cac3b68612243557aac878c3e4774c4b2edb28e1fc3200c420bb95", func := "loop.example/lib-growingbuffers/laws.FnWriteToRoad", spec := "fnWriteToRoad", unfollowed := true, recurses := true, named := ["io.ErrShortWrite"], apart := false, laid := [("io.ErrShortWrite", laid_io_ErrShortWrite)], narrowed := true }
def FnWriteToRoadUptoSaid : Prop := fnWriteToRoadUptoRow.holds Tryd.pinned (OpenSpec.upto fnWriteToRoadSpec)

/-- 'laws.FnExactWriteSingles', WHERE WHAT IT READS IS OF BULK AT MOST 1048576: true; the input reads as it did. -/
def fnExactWriteSinglesUptoRow : OpenClaim := { program := "ytkdjapbogchaeaadoor", sum := "ca6592ad84cac3b68612243557aac878c3e4774c4b2edb28e1fc3200c420bb95", func := "loop.example/lib-growingbuffers/laws.FnExactWriteSingles", spec := "fnExactWriteSingles", named := ["bytes.ErrTooLarge"], apart := false, laid := [("bytes.ErrTooLarge", laid_bytes_ErrTooLarge)], narrowed := true }
def FnExactWriteSinglesUptoSaid : Prop := fnExactWriteSinglesUptoRow.holds Tryd.pinned (OpenSpec.upto fnExactWriteSinglesSpec)

/-- 'laws.FnExactWriteFree', WHERE WHAT IT READS IS OF BULK AT MOST 1048576: true; the input reads as it did. -/
def fnExactWriteFreeUptoRow : OpenClaim := { program := "ytkdjapbogchaeaadoor", sum := "ca6592ad84cac3b68612243557aac878c3e4774c4b2edb28e1fc3200c420bb95", func := "loop.example/lib-growingbuffers/laws.FnExactWriteFree", spec := "fnExactWriteFree", named := ["bytes.ErrTooLarge"], apart := false, laid := [("bytes.ErrTooLarge", laid_bytes_ErrTooLarge)], narrowed := true }
def FnExactWriteFreeUptoSaid : Prop := fnExactWriteFreeUptoRow.holds Tryd.pinned (OpenSpec.upto fnExactWriteFreeSpec)

/-- 'laws.FnExactWriteSlices', WHERE WHAT IT READS IS OF BULK AT MOST 1048576: true; the input reads as it did. -/
def fnExactWriteSlicesUptoRow : OpenClaim := { program := "ytkdjapbogchaeaadoor", sum := "ca6592ad84cac3b68612243557aac878c3e4774c4b2edb28e1fc3200c420bb95", func := "loop.example/lib-growingbuffers/laws.FnExactWriteSlices", spec := "fnExactWriteSlices", named := ["bytes.ErrTooLarge"], apart := false, laid := [("bytes.ErrTooLarge", laid_bytes_ErrTooLarge)], narrowed := true }
def FnExactWriteSlicesUptoSaid : Prop := fnExactWriteSlicesUptoRow.holds Tryd.pinned (OpenSpec.upto fnExactWriteSlicesSpec)

/-- 'laws.FnExactWriteStrings', WHERE WHAT IT READS IS OF BULK AT MOST 1048576: true; the input reads as it did. -/
def fnExactWriteStringsUptoRow : OpenClaim := { program := "ytkdjapbogchaeaadoor", sum := "ca6592ad84cac3b68612243557aac878c3e4774c4b2edb28e1fc3200c420bb95", func := "loop.example/lib-growingbuffers/laws.FnExactWriteStrings", spec := "fnExactWriteStrings", named := ["bytes.ErrTooLarge"], apart := false, laid := [("bytes.ErrTooLarge", laid_bytes_ErrTooLarge)], narrowed := true }
def FnExactWriteStringsUptoSaid : Prop := fnExactWriteStringsUptoRow.holds Tryd.pinned (OpenSpec.upto fnExactWriteStringsSpec)

/-- 'laws.FnWriteCounts', WHERE WHAT IT READS IS OF BULK AT MOST 1048576: true; the input reads as it did. -/
def fnWriteCountsUptoRow : OpenClaim := { program := "ytkdjapbogchaeaadoor", sum := "ca6592ad84cac3b68612243557aac878c3e4774c4b2edb28e1fc3200c420bb95", func := "loop.example/lib-growingbuffers/laws.FnWriteCounts", spec := "fnWriteCounts", named := ["bytes.ErrTooLarge"], apart := false, laid := [("bytes.ErrTooLarge", laid_bytes_ErrTooLarge)], narrowed := true }
def FnWriteCountsUptoSaid : Prop := fnWriteCountsUptoRow.holds Tryd.pinned (OpenSpec.upto fnWriteCountsSpec)

/-- 'laws.FnWriteTwice', WHERE WHAT IT READS IS OF BULK AT MOST 1048576: true; the input reads as it did. -/
def fnWriteTwiceUptoRow : OpenClaim := { program := "ytkdjapbogchaeaadoor", sum := "ca6592ad84cac3b68612243557aac878c3e4774c4b2edb28e1fc3200c420bb95", func := "loop.example/lib-growingbuffers/laws.FnWriteTwice", spec := "fnWriteTwice", named := ["bytes.ErrTooLarge"], apart := false, laid := [("bytes.ErrTooLarge", laid_bytes_ErrTooLarge)], narrowed := true }
def FnWriteTwiceUptoSaid : Prop := fnWriteTwiceUptoRow.holds Tryd.pinned (OpenSpec.upto fnWriteTwiceSpec)

/-- 'laws.FnExactGrowAndWrite', WHERE WHAT IT READS IS OF BULK AT MOST 1048576: true; the input reads as it did. -/
def fnExactGrowAndWriteUptoRow : OpenClaim := { program := "ytkdjapbogchaeaadoor", sum := "ca6592ad84cac3b68612243557aac878c3e4774c4b2edb28e1fc3200c420bb95", func := "loop.example/lib-growingbuffers/laws.FnExactGrowAndWrite", spec := "fnExactGrowAndWrite", named := ["bytes.ErrTooLarge"], apart := false, laid := [("bytes.ErrTooLarge", laid_bytes_ErrTooLarge)], narrowed := true }
def FnExactGrowAndWriteUptoSaid : Prop := fnExactGrowAndWriteUptoRow.holds Tryd.pinned (OpenSpec.upto fnExactGrowAndWriteSpec)

/-- 'laws.FnWriteFreeRoad', WHERE WHAT IT READS IS OF BULK AT MOST 1048576: true; the input reads as it did. -/
def fnWriteFreeRoadUptoRow : OpenClaim := { program := "ytkdjapbogchaeaadoor", sum := "ca6592ad84cac3b68612243557aac878c3e4774c4b2edb28e1fc3200c420bb95", func := "loop.example/lib-growingbuffers/laws.FnWriteFreeRoad", spec := "fnWriteFreeRoad", named := ["bytes.ErrTooLarge"], apart := false, laid := [("bytes.ErrTooLarge", laid_bytes_ErrTooLarge)], narrowed := true }
def FnWriteFreeRoadUptoSaid : Prop := fnWriteFreeRoadUptoRow.holds Tryd.pinned (OpenSpec.upto fnWriteFreeRoadSpec)

/-- 'laws.FnExactReset', WHERE WHAT IT READS IS OF BULK AT MOST 1048576: true; the input reads as it did. -/
def fnExactResetUptoRow : OpenClaim := { program := "ytkdjapbogchaeaadoor", sum := "ca6592ad84cac3b68612243557aac878c3e4774c4b2edb28e1fc3200c420bb95", func := "loop.example/lib-growingbuffers/laws.FnExactReset", spec := "fnExactReset", named := ["bytes.ErrTooLarge"], apart := false, laid := [("bytes.ErrTooLarge", laid_bytes_ErrTooLarge)], narrowed := true }
def FnExactResetUptoSaid : Prop := fnExactResetUptoRow.holds Tryd.pinned (OpenSpec.upto fnExactResetSpec)

/-- 'laws.FnExactGrow', WHERE WHAT IT READS IS OF BULK AT MOST 1048576: true; the input reads as it did. -/
def fnExactGrowUptoRow : OpenClaim := { program := "ytkdjapbogchaeaadoor", sum := "ca6592ad84cac3b68612243557aac878c3e4774c4b2edb28e1fc3200c420bb95", func := "loop.example/lib-growingbuffers/laws.FnExactGrow", spec := "fnExactGrow", unfollowed := true, recurses := true, named := ["bytes.ErrTooLarge"], apart := false, laid := [("bytes.ErrTooLarge", laid_bytes_ErrTooLarge)], narrowed := true }
def FnExactGrowUptoSaid : Prop := fnExactGrowUptoRow.holds Tryd.pinned (OpenSpec.upto fnExactGrowSpec)

end Rows
end Go.Proofs.YtkdjapbogchaeaaDoor
