/-
  NARROWER THAN 'FOR EVERY INPUT', by the rows' own cells (each row's printed sentence says how): FnExactReadStrings: laid · FnLinesAll: laid · FnExactReadSingles: laid · FnExactReadSlices: laid · FnLinesEnd: laid · FnExactReadChunks: laid · FnReadCuts: laid · FnReadMore: laid · FnPeekNext: laid · FnLinesRoads: laid · FnReadRoads: laid · FnReadSingle: laid.
  DERIVED. THE GIVEN ROWS OF THIS SEAT. 12 by the template 'for every input the law returns true; each argument reads behind the call as it read before'; 0 by the template 'total and deterministic' (their statements: YtbogmdgooifhnaaDoorTotals.lean).
  GIVEN WITH THE SEED: the statements are not yours to turn. If you find one false, say at which input.
  Laid BY PROGRAM, IN A SANDBOX (cutbox-rows.mjs): the forced cells as the released guide's own fill.sh prints them over the translation e1c4ffb15e313fcb… (all of the seat's roots in one cut). By AI agents, Wed Nov 11 2026. No macro, syntax, notation, axiom, sorry.
-/
import Derived.Test.YtbogmdgooifhnaaDoorChecked
import GoSem.Claim
import GoSem.ClaimJoined
import GoSem.ClaimMapViews
import Derived.JoinedTies
import Derived.KernelRfl
namespace Go.Proofs.YtbogmdgooifhnaaDoor
/- THE CELL 'sum', in the pinned program and in every row, IS THE sha256 OF THE DUMP (.gsa) THAT YtbogmdgooifhnaaDoorProg.lean LOADS. Nothing in Lean hashes anything: it is a label: what it is worth is what the hold of that sum in a sandbox is worth. -/
noncomputable def Tryd.pinned : Pinned := { name := "ytbogmdgooifhnaadoor", sum := "e1c4ffb15e313fcb7ba83c08c513ba76638dcc6c4ae2b61ff52206057bdf2870", checked := Tryd.checked }
namespace Rows
def none {H : Type} : Left H := { results := [], args := [] }

/- WHAT THE LISTED PACKAGE-LEVEL VARIABLES READ AS WHEN THE CALL BEGINS. Each datum BY PROGRAM (the guide's laid-datum.mjs) off the statement by which the dump's own 'gosem.cut.vars' lays the variable. In a bare row this is a premise. The card (YtbogmdgooifhnaaDoorCards.lean) ties it to the program's text. -/
def laid_io_EOF {H : Type} : DataW H := .iface "*errors.errorString" (.ptr (.agg [.lit (.string [69, 79, 70])]))

/-- 'laws.FnExactReadStrings': WHATEVER THE INPUT: true; the input reads as it did. -/
def fnExactReadStringsSpec : ChangeSpec := { name := "fnExactReadStrings", fn := fun _ => fun
  | [d1, d2] => { results := [.lit (.bool true)], args := [d1, d2] }
  | _ => none }
def fnExactReadStringsRow : OpenClaim := { program := "ytbogmdgooifhnaadoor", sum := "e1c4ffb15e313fcb7ba83c08c513ba76638dcc6c4ae2b61ff52206057bdf2870", func := "loop.example/lib-growingbuffers/laws.FnExactReadStrings", spec := "fnExactReadStrings", inPlace := ["internal/bytealg.IndexByte"], named := ["io.EOF"], apart := false, laid := [("io.EOF", laid_io_EOF)] }
def FnExactReadStringsSaid : Prop := fnExactReadStringsRow.holds Tryd.pinned (OpenSpec.ofChange fnExactReadStringsSpec)

/-- ITS FALSE NEIGHBOUR: 'it returns false'. Refute it at one input. -/
def fnExactReadStringsWrong : ChangeSpec := { name := "fnExactReadStrings", fn := fun _ => fun
  | [d1, d2] => { results := [.lit (.bool false)], args := [d1, d2] }
  | _ => none }
def FnExactReadStringsWrongFalsely : Prop := fnExactReadStringsRow.holds Tryd.pinned (OpenSpec.ofChange fnExactReadStringsWrong)

/-- 'laws.FnLinesAll': WHATEVER THE INPUT: true; the input reads as it did. -/
def fnLinesAllSpec : ChangeSpec := { name := "fnLinesAll", fn := fun _ => fun
  | [d] => { results := [.lit (.bool true)], args := [d] }
  | _ => none }
def fnLinesAllRow : OpenClaim := { program := "ytbogmdgooifhnaadoor", sum := "e1c4ffb15e313fcb7ba83c08c513ba76638dcc6c4ae2b61ff52206057bdf2870", func := "loop.example/lib-growingbuffers/laws.FnLinesAll", spec := "fnLinesAll", inPlace := ["internal/bytealg.IndexByte"], named := ["io.EOF"], apart := false, laid := [("io.EOF", laid_io_EOF)] }
def FnLinesAllSaid : Prop := fnLinesAllRow.holds Tryd.pinned (OpenSpec.ofChange fnLinesAllSpec)

/-- ITS FALSE NEIGHBOUR: 'it returns false'. Refute it at one input. -/
def fnLinesAllWrong : ChangeSpec := { name := "fnLinesAll", fn := fun _ => fun
  | [d] => { results := [.lit (.bool false)], args := [d] }
  | _ => none }
def FnLinesAllWrongFalsely : Prop := fnLinesAllRow.holds Tryd.pinned (OpenSpec.ofChange fnLinesAllWrong)

/-- 'laws.FnExactReadSingles': WHATEVER THE INPUT: true; the input reads as it did. -/
def fnExactReadSinglesSpec : ChangeSpec := { name := "fnExactReadSingles", fn := fun _ => fun
  | [d1, d2] => { results := [.lit (.bool true)], args := [d1, d2] }
  | _ => none }
def fnExactReadSinglesRow : OpenClaim := { program := "ytbogmdgooifhnaadoor", sum := "e1c4ffb15e313fcb7ba83c08c513ba76638dcc6c4ae2b61ff52206057bdf2870", func := "loop.example/lib-growingbuffers/laws.FnExactReadSingles", spec := "fnExactReadSingles", named := ["io.EOF"], apart := false, laid := [("io.EOF", laid_io_EOF)] }
def FnExactReadSinglesSaid : Prop := fnExactReadSinglesRow.holds Tryd.pinned (OpenSpec.ofChange fnExactReadSinglesSpec)

/-- ITS FALSE NEIGHBOUR: 'it returns false'. Refute it at one input. -/
def fnExactReadSinglesWrong : ChangeSpec := { name := "fnExactReadSingles", fn := fun _ => fun
  | [d1, d2] => { results := [.lit (.bool false)], args := [d1, d2] }
  | _ => none }
def FnExactReadSinglesWrongFalsely : Prop := fnExactReadSinglesRow.holds Tryd.pinned (OpenSpec.ofChange fnExactReadSinglesWrong)

/-- 'laws.FnExactReadSlices': WHATEVER THE INPUT: true; the input reads as it did. -/
def fnExactReadSlicesSpec : ChangeSpec := { name := "fnExactReadSlices", fn := fun _ => fun
  | [d1, d2] => { results := [.lit (.bool true)], args := [d1, d2] }
  | _ => none }
def fnExactReadSlicesRow : OpenClaim := { program := "ytbogmdgooifhnaadoor", sum := "e1c4ffb15e313fcb7ba83c08c513ba76638dcc6c4ae2b61ff52206057bdf2870", func := "loop.example/lib-growingbuffers/laws.FnExactReadSlices", spec := "fnExactReadSlices", inPlace := ["internal/bytealg.IndexByte"], named := ["io.EOF"], apart := false, laid := [("io.EOF", laid_io_EOF)] }
def FnExactReadSlicesSaid : Prop := fnExactReadSlicesRow.holds Tryd.pinned (OpenSpec.ofChange fnExactReadSlicesSpec)

/-- ITS FALSE NEIGHBOUR: 'it returns false'. Refute it at one input. -/
def fnExactReadSlicesWrong : ChangeSpec := { name := "fnExactReadSlices", fn := fun _ => fun
  | [d1, d2] => { results := [.lit (.bool false)], args := [d1, d2] }
  | _ => none }
def FnExactReadSlicesWrongFalsely : Prop := fnExactReadSlicesRow.holds Tryd.pinned (OpenSpec.ofChange fnExactReadSlicesWrong)

/-- 'laws.FnLinesEnd': WHATEVER THE INPUT: true; the input reads as it did. -/
def fnLinesEndSpec : ChangeSpec := { name := "fnLinesEnd", fn := fun _ => fun
  | [d] => { results := [.lit (.bool true)], args := [d] }
  | _ => none }
def fnLinesEndRow : OpenClaim := { program := "ytbogmdgooifhnaadoor", sum := "e1c4ffb15e313fcb7ba83c08c513ba76638dcc6c4ae2b61ff52206057bdf2870", func := "loop.example/lib-growingbuffers/laws.FnLinesEnd", spec := "fnLinesEnd", inPlace := ["internal/bytealg.IndexByte"], named := ["io.EOF"], apart := false, laid := [("io.EOF", laid_io_EOF)] }
def FnLinesEndSaid : Prop := fnLinesEndRow.holds Tryd.pinned (OpenSpec.ofChange fnLinesEndSpec)

/-- ITS FALSE NEIGHBOUR: 'it returns false'. Refute it at one input. -/
def fnLinesEndWrong : ChangeSpec := { name := "fnLinesEnd", fn := fun _ => fun
  | [d] => { results := [.lit (.bool false)], args := [d] }
  | _ => none }
def FnLinesEndWrongFalsely : Prop := fnLinesEndRow.holds Tryd.pinned (OpenSpec.ofChange fnLinesEndWrong)

/-- 'laws.FnExactReadChunks': WHATEVER THE INPUT: true; the input reads as it did. -/
def fnExactReadChunksSpec : ChangeSpec := { name := "fnExactReadChunks", fn := fun _ => fun
  | [d1, d2] => { results := [.lit (.bool true)], args := [d1, d2] }
  | _ => none }
def fnExactReadChunksRow : OpenClaim := { program := "ytbogmdgooifhnaadoor", sum := "e1c4ffb15e313fcb7ba83c08c513ba76638dcc6c4ae2b61ff52206057bdf2870", func := "loop.example/lib-growingbuffers/laws.FnExactReadChunks", spec := "fnExactReadChunks", named := ["io.EOF"], apart := false, laid := [("io.EOF", laid_io_EOF)] }
def FnExactReadChunksSaid : Prop := fnExactReadChunksRow.holds Tryd.pinned (OpenSpec.ofChange fnExactReadChunksSpec)

/-- ITS FALSE NEIGHBOUR: 'it returns false'. Refute it at one input. -/
def fnExactReadChunksWrong : ChangeSpec := { name := "fnExactReadChunks", fn := fun _ => fun
  | [d1, d2] => { results := [.lit (.bool false)], args := [d1, d2] }
  | _ => none }
def FnExactReadChunksWrongFalsely : Prop := fnExactReadChunksRow.holds Tryd.pinned (OpenSpec.ofChange fnExactReadChunksWrong)

/-- 'laws.FnReadCuts': WHATEVER THE INPUT: true; the input reads as it did. -/
def fnReadCutsSpec : ChangeSpec := { name := "fnReadCuts", fn := fun _ => fun
  | [d] => { results := [.lit (.bool true)], args := [d] }
  | _ => none }
def fnReadCutsRow : OpenClaim := { program := "ytbogmdgooifhnaadoor", sum := "e1c4ffb15e313fcb7ba83c08c513ba76638dcc6c4ae2b61ff52206057bdf2870", func := "loop.example/lib-growingbuffers/laws.FnReadCuts", spec := "fnReadCuts", named := ["io.EOF"], apart := false, laid := [("io.EOF", laid_io_EOF)] }
def FnReadCutsSaid : Prop := fnReadCutsRow.holds Tryd.pinned (OpenSpec.ofChange fnReadCutsSpec)

/-- ITS FALSE NEIGHBOUR: 'it returns false'. Refute it at one input. -/
def fnReadCutsWrong : ChangeSpec := { name := "fnReadCuts", fn := fun _ => fun
  | [d] => { results := [.lit (.bool false)], args := [d] }
  | _ => none }
def FnReadCutsWrongFalsely : Prop := fnReadCutsRow.holds Tryd.pinned (OpenSpec.ofChange fnReadCutsWrong)

/-- 'laws.FnReadMore': WHATEVER THE INPUT: true; the input reads as it did. -/
def fnReadMoreSpec : ChangeSpec := { name := "fnReadMore", fn := fun _ => fun
  | [d] => { results := [.lit (.bool true)], args := [d] }
  | _ => none }
def fnReadMoreRow : OpenClaim := { program := "ytbogmdgooifhnaadoor", sum := "e1c4ffb15e313fcb7ba83c08c513ba76638dcc6c4ae2b61ff52206057bdf2870", func := "loop.example/lib-growingbuffers/laws.FnReadMore", spec := "fnReadMore", named := ["io.EOF"], apart := false, laid := [("io.EOF", laid_io_EOF)] }
def FnReadMoreSaid : Prop := fnReadMoreRow.holds Tryd.pinned (OpenSpec.ofChange fnReadMoreSpec)

/-- ITS FALSE NEIGHBOUR: 'it returns false'. Refute it at one input. -/
def fnReadMoreWrong : ChangeSpec := { name := "fnReadMore", fn := fun _ => fun
  | [d] => { results := [.lit (.bool false)], args := [d] }
  | _ => none }
def FnReadMoreWrongFalsely : Prop := fnReadMoreRow.holds Tryd.pinned (OpenSpec.ofChange fnReadMoreWrong)

/-- 'laws.FnPeekNext': WHATEVER THE INPUT: true; the input reads as it did. -/
def fnPeekNextSpec : ChangeSpec := { name := "fnPeekNext", fn := fun _ => fun
  | [d] => { results := [.lit (.bool true)], args := [d] }
  | _ => none }
def fnPeekNextRow : OpenClaim := { program := "ytbogmdgooifhnaadoor", sum := "e1c4ffb15e313fcb7ba83c08c513ba76638dcc6c4ae2b61ff52206057bdf2870", func := "loop.example/lib-growingbuffers/laws.FnPeekNext", spec := "fnPeekNext", named := ["io.EOF"], apart := false, laid := [("io.EOF", laid_io_EOF)] }
def FnPeekNextSaid : Prop := fnPeekNextRow.holds Tryd.pinned (OpenSpec.ofChange fnPeekNextSpec)

/-- ITS FALSE NEIGHBOUR: 'it returns false'. Refute it at one input. -/
def fnPeekNextWrong : ChangeSpec := { name := "fnPeekNext", fn := fun _ => fun
  | [d] => { results := [.lit (.bool false)], args := [d] }
  | _ => none }
def FnPeekNextWrongFalsely : Prop := fnPeekNextRow.holds Tryd.pinned (OpenSpec.ofChange fnPeekNextWrong)

/-- 'laws.FnLinesRoads': WHATEVER THE INPUT: true; the input reads as it did. -/
def fnLinesRoadsSpec : ChangeSpec := { name := "fnLinesRoads", fn := fun _ => fun
  | [d] => { results := [.lit (.bool true)], args := [d] }
  | _ => none }
def fnLinesRoadsRow : OpenClaim := { program := "ytbogmdgooifhnaadoor", sum := "e1c4ffb15e313fcb7ba83c08c513ba76638dcc6c4ae2b61ff52206057bdf2870", func := "loop.example/lib-growingbuffers/laws.FnLinesRoads", spec := "fnLinesRoads", inPlace := ["internal/bytealg.IndexByte"], named := ["io.EOF"], apart := false, laid := [("io.EOF", laid_io_EOF)] }
def FnLinesRoadsSaid : Prop := fnLinesRoadsRow.holds Tryd.pinned (OpenSpec.ofChange fnLinesRoadsSpec)

/-- ITS FALSE NEIGHBOUR: 'it returns false'. Refute it at one input. -/
def fnLinesRoadsWrong : ChangeSpec := { name := "fnLinesRoads", fn := fun _ => fun
  | [d] => { results := [.lit (.bool false)], args := [d] }
  | _ => none }
def FnLinesRoadsWrongFalsely : Prop := fnLinesRoadsRow.holds Tryd.pinned (OpenSpec.ofChange fnLinesRoadsWrong)

/-- 'laws.FnReadRoads': WHATEVER THE INPUT: true; the input reads as it did. -/
def fnReadRoadsSpec : ChangeSpec := { name := "fnReadRoads", fn := fun _ => fun
  | [d] => { results := [.lit (.bool true)], args := [d] }
  | _ => none }
def fnReadRoadsRow : OpenClaim := { program := "ytbogmdgooifhnaadoor", sum := "e1c4ffb15e313fcb7ba83c08c513ba76638dcc6c4ae2b61ff52206057bdf2870", func := "loop.example/lib-growingbuffers/laws.FnReadRoads", spec := "fnReadRoads", named := ["io.EOF"], apart := false, laid := [("io.EOF", laid_io_EOF)] }
def FnReadRoadsSaid : Prop := fnReadRoadsRow.holds Tryd.pinned (OpenSpec.ofChange fnReadRoadsSpec)

/-- ITS FALSE NEIGHBOUR: 'it returns false'. Refute it at one input. -/
def fnReadRoadsWrong : ChangeSpec := { name := "fnReadRoads", fn := fun _ => fun
  | [d] => { results := [.lit (.bool false)], args := [d] }
  | _ => none }
def FnReadRoadsWrongFalsely : Prop := fnReadRoadsRow.holds Tryd.pinned (OpenSpec.ofChange fnReadRoadsWrong)

/-- 'laws.FnReadSingle': WHATEVER THE INPUT: true; the input reads as it did. -/
def fnReadSingleSpec : ChangeSpec := { name := "fnReadSingle", fn := fun _ => fun
  | [d] => { results := [.lit (.bool true)], args := [d] }
  | _ => none }
def fnReadSingleRow : OpenClaim := { program := "ytbogmdgooifhnaadoor", sum := "e1c4ffb15e313fcb7ba83c08c513ba76638dcc6c4ae2b61ff52206057bdf2870", func := "loop.example/lib-growingbuffers/laws.FnReadSingle", spec := "fnReadSingle", named := ["io.EOF"], apart := false, laid := [("io.EOF", laid_io_EOF)] }
def FnReadSingleSaid : Prop := fnReadSingleRow.holds Tryd.pinned (OpenSpec.ofChange fnReadSingleSpec)

/-- ITS FALSE NEIGHBOUR: 'it returns false'. Refute it at one input. -/
def fnReadSingleWrong : ChangeSpec := { name := "fnReadSingle", fn := fun _ => fun
  | [d] => { results := [.lit (.bool false)], args := [d] }
  | _ => none }
def FnReadSingleWrongFalsely : Prop := fnReadSingleRow.holds Tryd.pinned (OpenSpec.ofChange fnReadSingleWrong)

/- THE SECOND FORM. 'bulk': how many values and letters a reading holds, each counted each time it is reached (what is shared counts as often as it is met; a slice's spare places count too). A statement '..UptoSaid' is the law's where the arguments, and the package variables that the reading takes, are together of bulk at most 1048576: NARROWER than '..Said'. Prove '..Said' where nothing that the law and all that it calls make is longer than what came in: it says more and counts as full. Else prove '..UptoSaid'. A law counts once. -/
mutual
def uptoBulk {H : Type} : DataW H → Nat
  | .lit (.string bytes) => bytes.length + 1
  | .lit _ => 1
  | .nil => 1
  | .ptr d => uptoBulk d + 1
  | .slice elems spare => uptoBulkAll elems + uptoBulkAll spare + 1
  | .agg parts => uptoBulkAll parts + 1
  | .iface _ d => uptoBulk d + 1
  | .map entries => uptoBulkEntries entries + 1
  | .held _ => 1
def uptoBulkAll {H : Type} : List (DataW H) → Nat
  | [] => 0
  | d :: r => uptoBulk d + uptoBulkAll r
def uptoBulkEntries {H : Type} : List (Lit × DataW H) → Nat
  | [] => 0
  | x :: r => uptoBulkEntry x + uptoBulkEntries r
def uptoBulkEntry {H : Type} : Lit × DataW H → Nat
  | (.string bytes, d) => bytes.length + uptoBulk d + 1
  | (_, d) => uptoBulk d + 1
 end
def uptoSmall : (H : Type) → List (DataW H) → Bool := fun _ ds => decide (uptoBulkAll ds ≤ 1048576)
def OpenSpec.upto (s : _root_.Go.ChangeSpec) : _root_.Go.OpenSpec := { _root_.Go.OpenSpec.ofChange s with cond := some uptoSmall }

/-- 'laws.FnExactReadStrings', WHERE WHAT IT READS IS OF BULK AT MOST 1048576: true; the input reads as it did. -/
def fnExactReadStringsUptoRow : OpenClaim := { program := "ytbogmdgooifhnaadoor", sum := "e1c4ffb15e313fcb7ba83c08c513ba76638dcc6c4ae2b61ff52206057bdf2870", func := "loop.example/lib-growingbuffers/laws.FnExactReadStrings", spec := "fnExactReadStrings", inPlace := ["internal/bytealg.IndexByte"], named := ["io.EOF"], apart := false, laid := [("io.EOF", laid_io_EOF)], narrowed := true }
def FnExactReadStringsUptoSaid : Prop := fnExactReadStringsUptoRow.holds Tryd.pinned (OpenSpec.upto fnExactReadStringsSpec)

/-- 'laws.FnLinesAll', WHERE WHAT IT READS IS OF BULK AT MOST 1048576: true; the input reads as it did. -/
def fnLinesAllUptoRow : OpenClaim := { program := "ytbogmdgooifhnaadoor", sum := "e1c4ffb15e313fcb7ba83c08c513ba76638dcc6c4ae2b61ff52206057bdf2870", func := "loop.example/lib-growingbuffers/laws.FnLinesAll", spec := "fnLinesAll", inPlace := ["internal/bytealg.IndexByte"], named := ["io.EOF"], apart := false, laid := [("io.EOF", laid_io_EOF)], narrowed := true }
def FnLinesAllUptoSaid : Prop := fnLinesAllUptoRow.holds Tryd.pinned (OpenSpec.upto fnLinesAllSpec)

/-- 'laws.FnExactReadSingles', WHERE WHAT IT READS IS OF BULK AT MOST 1048576: true; the input reads as it did. -/
def fnExactReadSinglesUptoRow : OpenClaim := { program := "ytbogmdgooifhnaadoor", sum := "e1c4ffb15e313fcb7ba83c08c513ba76638dcc6c4ae2b61ff52206057bdf2870", func := "loop.example/lib-growingbuffers/laws.FnExactReadSingles", spec := "fnExactReadSingles", named := ["io.EOF"], apart := false, laid := [("io.EOF", laid_io_EOF)], narrowed := true }
def FnExactReadSinglesUptoSaid : Prop := fnExactReadSinglesUptoRow.holds Tryd.pinned (OpenSpec.upto fnExactReadSinglesSpec)

/-- 'laws.FnExactReadSlices', WHERE WHAT IT READS IS OF BULK AT MOST 1048576: true; the input reads as it did. -/
def fnExactReadSlicesUptoRow : OpenClaim := { program := "ytbogmdgooifhnaadoor", sum := "e1c4ffb15e313fcb7ba83c08c513ba76638dcc6c4ae2b61ff52206057bdf2870", func := "loop.example/lib-growingbuffers/laws.FnExactReadSlices", spec := "fnExactReadSlices", inPlace := ["internal/bytealg.IndexByte"], named := ["io.EOF"], apart := false, laid := [("io.EOF", laid_io_EOF)], narrowed := true }
def FnExactReadSlicesUptoSaid : Prop := fnExactReadSlicesUptoRow.holds Tryd.pinned (OpenSpec.upto fnExactReadSlicesSpec)

/-- 'laws.FnLinesEnd', WHERE WHAT IT READS IS OF BULK AT MOST 1048576: true; the input reads as it did. -/
def fnLinesEndUptoRow : OpenClaim := { program := "ytbogmdgooifhnaadoor", sum := "e1c4ffb15e313fcb7ba83c08c513ba76638dcc6c4ae2b61ff52206057bdf2870", func := "loop.example/lib-growingbuffers/laws.FnLinesEnd", spec := "fnLinesEnd", inPlace := ["internal/bytealg.IndexByte"], named := ["io.EOF"], apart := false, laid := [("io.EOF", laid_io_EOF)], narrowed := true }
def FnLinesEndUptoSaid : Prop := fnLinesEndUptoRow.holds Tryd.pinned (OpenSpec.upto fnLinesEndSpec)

/-- 'laws.FnExactReadChunks', WHERE WHAT IT READS IS OF BULK AT MOST 1048576: true; the input reads as it did. -/
def fnExactReadChunksUptoRow : OpenClaim := { program := "ytbogmdgooifhnaadoor", sum := "e1c4ffb15e313fcb7ba83c08c513ba76638dcc6c4ae2b61ff52206057bdf2870", func := "loop.example/lib-growingbuffers/laws.FnExactReadChunks", spec := "fnExactReadChunks", named := ["io.EOF"], apart := false, laid := [("io.EOF", laid_io_EOF)], narrowed := true }
def FnExactReadChunksUptoSaid : Prop := fnExactReadChunksUptoRow.holds Tryd.pinned (OpenSpec.upto fnExactReadChunksSpec)

/-- 'laws.FnReadCuts', WHERE WHAT IT READS IS OF BULK AT MOST 1048576: true; the input reads as it did. -/
def fnReadCutsUptoRow : OpenClaim := { program := "ytbogmdgooifhnaadoor", sum := "e1c4ffb15e313fcb7ba83c08c513ba76638dcc6c4ae2b61ff52206057bdf2870", func := "loop.example/lib-growingbuffers/laws.FnReadCuts", spec := "fnReadCuts", named := ["io.EOF"], apart := false, laid := [("io.EOF", laid_io_EOF)], narrowed := true }
def FnReadCutsUptoSaid : Prop := fnReadCutsUptoRow.holds Tryd.pinned (OpenSpec.upto fnReadCutsSpec)

/-- 'laws.FnReadMore', WHERE WHAT IT READS IS OF BULK AT MOST 1048576: true; the input reads as it did. -/
def fnReadMoreUptoRow : OpenClaim := { program := "ytbogmdgooifhnaadoor", sum := "e1c4ffb15e313fcb7ba83c08c513ba76638dcc6c4ae2b61ff52206057bdf2870", func := "loop.example/lib-growingbuffers/laws.FnReadMore", spec := "fnReadMore", named := ["io.EOF"], apart := false, laid := [("io.EOF", laid_io_EOF)], narrowed := true }
def FnReadMoreUptoSaid : Prop := fnReadMoreUptoRow.holds Tryd.pinned (OpenSpec.upto fnReadMoreSpec)

/-- 'laws.FnPeekNext', WHERE WHAT IT READS IS OF BULK AT MOST 1048576: true; the input reads as it did. -/
def fnPeekNextUptoRow : OpenClaim := { program := "ytbogmdgooifhnaadoor", sum := "e1c4ffb15e313fcb7ba83c08c513ba76638dcc6c4ae2b61ff52206057bdf2870", func := "loop.example/lib-growingbuffers/laws.FnPeekNext", spec := "fnPeekNext", named := ["io.EOF"], apart := false, laid := [("io.EOF", laid_io_EOF)], narrowed := true }
def FnPeekNextUptoSaid : Prop := fnPeekNextUptoRow.holds Tryd.pinned (OpenSpec.upto fnPeekNextSpec)

/-- 'laws.FnLinesRoads', WHERE WHAT IT READS IS OF BULK AT MOST 1048576: true; the input reads as it did. -/
def fnLinesRoadsUptoRow : OpenClaim := { program := "ytbogmdgooifhnaadoor", sum := "e1c4ffb15e313fcb7ba83c08c513ba76638dcc6c4ae2b61ff52206057bdf2870", func := "loop.example/lib-growingbuffers/laws.FnLinesRoads", spec := "fnLinesRoads", inPlace := ["internal/bytealg.IndexByte"], named := ["io.EOF"], apart := false, laid := [("io.EOF", laid_io_EOF)], narrowed := true }
def FnLinesRoadsUptoSaid : Prop := fnLinesRoadsUptoRow.holds Tryd.pinned (OpenSpec.upto fnLinesRoadsSpec)

/-- 'laws.FnReadRoads', WHERE WHAT IT READS IS OF BULK AT MOST 1048576: true; the input reads as it did. -/
def fnReadRoadsUptoRow : OpenClaim := { program := "ytbogmdgooifhnaadoor", sum := "e1c4ffb15e313fcb7ba83c08c513ba76638dcc6c4ae2b61ff52206057bdf2870", func := "loop.example/lib-growingbuffers/laws.FnReadRoads", spec := "fnReadRoads", named := ["io.EOF"], apart := false, laid := [("io.EOF", laid_io_EOF)], narrowed := true }
def FnReadRoadsUptoSaid : Prop := fnReadRoadsUptoRow.holds Tryd.pinned (OpenSpec.upto fnReadRoadsSpec)

/-- 'laws.FnReadSingle', WHERE WHAT IT READS IS OF BULK AT MOST 1048576: true; the input reads as it did. -/
def fnReadSingleUptoRow : OpenClaim := { program := "ytbogmdgooifhnaadoor", sum := "e1c4ffb15e313fcb7ba83c08c513ba76638dcc6c4ae2b61ff52206057bdf2870", func := "loop.example/lib-growingbuffers/laws.FnReadSingle", spec := "fnReadSingle", named := ["io.EOF"], apart := false, laid := [("io.EOF", laid_io_EOF)], narrowed := true }
def FnReadSingleUptoSaid : Prop := fnReadSingleUptoRow.holds Tryd.pinned (OpenSpec.upto fnReadSingleSpec)

end Rows
end Go.Proofs.YtbogmdgooifhnaaDoor
