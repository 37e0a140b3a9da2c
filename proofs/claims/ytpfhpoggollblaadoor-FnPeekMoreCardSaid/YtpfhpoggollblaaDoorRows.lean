/-
  NARROWER THAN 'FOR EVERY INPUT', by the rows' own cells (each row's printed sentence says how): FnExactChangePeek: laid · FnExactPeekChunks: laid · FnExactPeekFull: laid · FnPeekMore: laid · FnChange: laid.
  DERIVED. THE GIVEN ROWS OF THIS SEAT. 5 by the template 'for every input the law returns true; each argument reads behind the call as it read before'; 0 by the template 'total and deterministic' (their statements: YtpfhpoggollblaaDoorTotals.lean).
  GIVEN WITH THE SEED: the statements are not yours to turn. If you find one false, say at which input.
  Laid BY PROGRAM, IN A SANDBOX (cutbox-rows.mjs): the forced cells as the released guide's own fill.sh prints them over the translation fa9fabeec2a05926… (all of the seat's roots in one cut). By AI agents, Wed Nov 11 2026. No macro, syntax, notation, axiom, sorry.
-/
import Derived.Test.YtpfhpoggollblaaDoorChecked
import GoSem.Claim
import GoSem.ClaimJoined
import GoSem.ClaimMapViews
import Derived.JoinedTies
import Derived.KernelRfl
namespace Go.Proofs.YtpfhpoggollblaaDoor
/- THE CELL 'sum', in the pinned program and in every row, IS THE sha256 OF THE DUMP (.gsa) THAT YtpfhpoggollblaaDoorProg.lean LOADS. Nothing in Lean hashes anything: it is a label: what it is worth is what the hold of that sum in a sandbox is worth. -/
noncomputable def Tryd.pinned : Pinned := { name := "ytpfhpoggollblaadoor", sum := "fa9fabeec2a059268ca0ab7e2fbd57d0d57ac164a9e401734e1fc996346d05c9", checked := Tryd.checked }
namespace Rows
def none {H : Type} : Left H := { results := [], args := [] }

/- WHAT THE LISTED PACKAGE-LEVEL VARIABLES READ AS WHEN THE CALL BEGINS. Each datum BY PROGRAM (the guide's laid-datum.mjs) off the statement by which the dump's own 'gosem.cut.vars' lays the variable. In a bare row this is a premise. The card (YtpfhpoggollblaaDoorCards.lean) ties it to the program's text. -/
def laid_io_EOF {H : Type} : DataW H := .iface "*errors.errorString" (.ptr (.agg [.lit (.string [69, 79, 70])]))

/-- 'laws.FnExactChangePeek': WHATEVER THE INPUT: true; the input reads as it did. -/
def fnExactChangePeekSpec : ChangeSpec := { name := "fnExactChangePeek", fn := fun _ => fun
  | [d1, d2, d3, d4] => { results := [.lit (.bool true)], args := [d1, d2, d3, d4] }
  | _ => none }
def fnExactChangePeekRow : OpenClaim := { program := "ytpfhpoggollblaadoor", sum := "fa9fabeec2a059268ca0ab7e2fbd57d0d57ac164a9e401734e1fc996346d05c9", func := "loop.example/lib-growingbuffers/laws.FnExactChangePeek", spec := "fnExactChangePeek", named := ["io.EOF"], apart := false, laid := [("io.EOF", laid_io_EOF)] }
def FnExactChangePeekSaid : Prop := fnExactChangePeekRow.holds Tryd.pinned (OpenSpec.ofChange fnExactChangePeekSpec)

/-- ITS FALSE NEIGHBOUR: 'it returns false'. Refute it at one input. -/
def fnExactChangePeekWrong : ChangeSpec := { name := "fnExactChangePeek", fn := fun _ => fun
  | [d1, d2, d3, d4] => { results := [.lit (.bool false)], args := [d1, d2, d3, d4] }
  | _ => none }
def FnExactChangePeekWrongFalsely : Prop := fnExactChangePeekRow.holds Tryd.pinned (OpenSpec.ofChange fnExactChangePeekWrong)

/-- 'laws.FnExactPeekChunks': WHATEVER THE INPUT: true; the input reads as it did. -/
def fnExactPeekChunksSpec : ChangeSpec := { name := "fnExactPeekChunks", fn := fun _ => fun
  | [d1, d2] => { results := [.lit (.bool true)], args := [d1, d2] }
  | _ => none }
def fnExactPeekChunksRow : OpenClaim := { program := "ytpfhpoggollblaadoor", sum := "fa9fabeec2a059268ca0ab7e2fbd57d0d57ac164a9e401734e1fc996346d05c9", func := "loop.example/lib-growingbuffers/laws.FnExactPeekChunks", spec := "fnExactPeekChunks", named := ["io.EOF"], apart := false, laid := [("io.EOF", laid_io_EOF)] }
def FnExactPeekChunksSaid : Prop := fnExactPeekChunksRow.holds Tryd.pinned (OpenSpec.ofChange fnExactPeekChunksSpec)

/-- ITS FALSE NEIGHBOUR: 'it returns false'. Refute it at one input. -/
def fnExactPeekChunksWrong : ChangeSpec := { name := "fnExactPeekChunks", fn := fun _ => fun
  | [d1, d2] => { results := [.lit (.bool false)], args := [d1, d2] }
  | _ => none }
def FnExactPeekChunksWrongFalsely : Prop := fnExactPeekChunksRow.holds Tryd.pinned (OpenSpec.ofChange fnExactPeekChunksWrong)

/-- 'laws.FnExactPeekFull': WHATEVER THE INPUT: true; the input reads as it did. -/
def fnExactPeekFullSpec : ChangeSpec := { name := "fnExactPeekFull", fn := fun _ => fun
  | [d1, d2] => { results := [.lit (.bool true)], args := [d1, d2] }
  | _ => none }
def fnExactPeekFullRow : OpenClaim := { program := "ytpfhpoggollblaadoor", sum := "fa9fabeec2a059268ca0ab7e2fbd57d0d57ac164a9e401734e1fc996346d05c9", func := "loop.example/lib-growingbuffers/laws.FnExactPeekFull", spec := "fnExactPeekFull", named := ["io.EOF"], apart := false, laid := [("io.EOF", laid_io_EOF)] }
def FnExactPeekFullSaid : Prop := fnExactPeekFullRow.holds Tryd.pinned (OpenSpec.ofChange fnExactPeekFullSpec)

/-- ITS FALSE NEIGHBOUR: 'it returns false'. Refute it at one input. -/
def fnExactPeekFullWrong : ChangeSpec := { name := "fnExactPeekFull", fn := fun _ => fun
  | [d1, d2] => { results := [.lit (.bool false)], args := [d1, d2] }
  | _ => none }
def FnExactPeekFullWrongFalsely : Prop := fnExactPeekFullRow.holds Tryd.pinned (OpenSpec.ofChange fnExactPeekFullWrong)

/-- 'laws.FnPeekMore': WHATEVER THE INPUT: true; the input reads as it did. -/
def fnPeekMoreSpec : ChangeSpec := { name := "fnPeekMore", fn := fun _ => fun
  | [d] => { results := [.lit (.bool true)], args := [d] }
  | _ => none }
def fnPeekMoreRow : OpenClaim := { program := "ytpfhpoggollblaadoor", sum := "fa9fabeec2a059268ca0ab7e2fbd57d0d57ac164a9e401734e1fc996346d05c9", func := "loop.example/lib-growingbuffers/laws.FnPeekMore", spec := "fnPeekMore", named := ["io.EOF"], apart := false, laid := [("io.EOF", laid_io_EOF)] }
def FnPeekMoreSaid : Prop := fnPeekMoreRow.holds Tryd.pinned (OpenSpec.ofChange fnPeekMoreSpec)

/-- ITS FALSE NEIGHBOUR: 'it returns false'. Refute it at one input. -/
def fnPeekMoreWrong : ChangeSpec := { name := "fnPeekMore", fn := fun _ => fun
  | [d] => { results := [.lit (.bool false)], args := [d] }
  | _ => none }
def FnPeekMoreWrongFalsely : Prop := fnPeekMoreRow.holds Tryd.pinned (OpenSpec.ofChange fnPeekMoreWrong)

/-- 'laws.FnChange': WHATEVER THE INPUT: true; the input reads as it did. -/
def fnChangeSpec : ChangeSpec := { name := "fnChange", fn := fun _ => fun
  | [d] => { results := [.lit (.bool true)], args := [d] }
  | _ => none }
def fnChangeRow : OpenClaim := { program := "ytpfhpoggollblaadoor", sum := "fa9fabeec2a059268ca0ab7e2fbd57d0d57ac164a9e401734e1fc996346d05c9", func := "loop.example/lib-growingbuffers/laws.FnChange", spec := "fnChange", named := ["io.EOF"], apart := false, laid := [("io.EOF", laid_io_EOF)] }
def FnChangeSaid : Prop := fnChangeRow.holds Tryd.pinned (OpenSpec.ofChange fnChangeSpec)

/-- ITS FALSE NEIGHBOUR: 'it returns false'. Refute it at one input. -/
def fnChangeWrong : ChangeSpec := { name := "fnChange", fn := fun _ => fun
  | [d] => { results := [.lit (.bool false)], args := [d] }
  | _ => none }
def FnChangeWrongFalsely : Prop := fnChangeRow.holds Tryd.pinned (OpenSpec.ofChange fnChangeWrong)

/- THE SECOND FORM. 'bulk': how many values and letters a reading holds, each counted each time it is reached (what is shared counts as often as it is met; a slice's spare places count too). A statement '..UptoSaid' is the law's where the arguments, and the package variables that the reading takes, are together of bulk at most 1048576: NARROWER than '..Said'. Prove '..Said' where nothing that the law and all that it calls make is longer than what came in: it says more and counts as full. Else prove '..UptoSaid'. A law counts once. -/
mutual
def uptoBulk {H : Type} : DataW H → Nat
  | .lit (.string bytes) => bytes.length + 1
  | .lit _ => 1
  | .nil => 1
  | .ptr d => uptoBulk d + 1
  | .slice elems spare => uptoBulkAll elems + uptoBulkAll spare + 1
  | .agg parts => uptoBulkAll parts + 1
  | .iface _ d => uptoBulk d + 1
  | .map entries => uptoBulkEntries entries + 1
  | .held _ => 1
def uptoBulkAll {H : Type} : List (DataW H) → Nat
  | [] => 0
  | d :: r => uptoBulk d + uptoBulkAll r
def uptoBulkEntries {H : Type} : List (Lit × DataW H) → Nat
  | [] => 0
  | x :: r => uptoBulkEntry x + uptoBulkEntries r
def uptoBulkEntry {H : Type} : Lit × DataW H → Nat
  | (.string bytes, d) => bytes.length + uptoBulk d + 1
  | (_, d) => uptoBulk d + 1
 end
def uptoSmall : (H : Type) → List (DataW H) → Bool := fun _ ds => decide (uptoBulkAll ds ≤ 1048576)
def OpenSpec.upto (s : _root_.Go.ChangeSpec) : _root_.Go.OpenSpec := { _root_.Go.OpenSpec.ofChange s with cond := some uptoSmall }

/-- 'laws.FnExactChangePeek', WHERE WHAT IT READS IS OF BULK AT MOST 1048576: true; the input reads as it did. -/
def fnExactChangePeekUptoRow : OpenClaim := { program := "ytpfhpoggollblaadoor", sum := "fa9fabeec2a059268ca0ab7e2fbd57d0d57ac164a9e401734e1fc996346d05c9", func := "loop.example/lib-growingbuffers/laws.FnExactChangePeek", spec := "fnExactChangePeek", named := ["io.EOF"], apart := false, laid := [("io.EOF", laid_io_EOF)], narrowed := true }
def FnExactChangePeekUptoSaid : Prop := fnExactChangePeekUptoRow.holds Tryd.pinned (OpenSpec.upto fnExactChangePeekSpec)

/-- 'laws.FnExactPeekChunks', WHERE WHAT IT READS IS OF BULK AT MOST 1048576: true; the input reads as it did. -/
def fnExactPeekChunksUptoRow : OpenClaim := { program := "ytpfhpoggollblaadoor", sum := "fa9fabeec2a059268ca0ab7e2fbd57d0d57ac164a9e401734e1fc996346d05c9", func := "loop.example/lib-growingbuffers/laws.FnExactPeekChunks", spec := "fnExactPeekChunks", named := ["io.EOF"], apart := false, laid := [("io.EOF", laid_io_EOF)], narrowed := true }
def FnExactPeekChunksUptoSaid : Prop := fnExactPeekChunksUptoRow.holds Tryd.pinned (OpenSpec.upto fnExactPeekChunksSpec)

/-- 'laws.FnExactPeekFull', WHERE WHAT IT READS IS OF BULK AT MOST 1048576: true; the input reads as it did. -/
def fnExactPeekFullUptoRow : OpenClaim := { program := "ytpfhpoggollblaadoor", sum := "fa9fabeec2a059268ca0ab7e2fbd57d0d57ac164a9e401734e1fc996346d05c9", func := "loop.example/lib-growingbuffers/laws.FnExactPeekFull", spec := "fnExactPeekFull", named := ["io.EOF"], apart := false, laid := [("io.EOF", laid_io_EOF)], narrowed := true }
def FnExactPeekFullUptoSaid : Prop := fnExactPeekFullUptoRow.holds Tryd.pinned (OpenSpec.upto fnExactPeekFullSpec)

/-- 'laws.FnPeekMore', WHERE WHAT IT READS IS OF BULK AT MOST 1048576: true; the input reads as it did. -/
def fnPeekMoreUptoRow : OpenClaim := { program := "ytpfhpoggollblaadoor", sum := "fa9fabeec2a059268ca0ab7e2fbd57d0d57ac164a9e401734e1fc996346d05c9", func := "loop.example/lib-growingbuffers/laws.FnPeekMore", spec := "fnPeekMore", named := ["io.EOF"], apart := false, laid := [("io.EOF", laid_io_EOF)], narrowed := true }
def FnPeekMoreUptoSaid : Prop := fnPeekMoreUptoRow.holds Tryd.pinned (OpenSpec.upto fnPeekMoreSpec)

/-- 'laws.FnChange', WHERE WHAT IT READS IS OF BULK AT MOST 1048576: true; the input reads as it did. -/
def fnChangeUptoRow : OpenClaim := { program := "ytpfhpoggollblaadoor", sum := "fa9fabeec2a059268ca0ab7e2fbd57d0d57ac164a9e401734e1fc996346d05c9", func := "loop.example/lib-growingbuffers/laws.FnChange", spec := "fnChange", named := ["io.EOF"], apart := false, laid := [("io.EOF", laid_io_EOF)], narrowed := true }
def FnChangeUptoSaid : Prop := fnChangeUptoRow.holds Tryd.pinned (OpenSpec.upto fnChangeSpec)

end Rows
end Go.Proofs.YtpfhpoggollblaaDoor
