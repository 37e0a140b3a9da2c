/-
  NARROWER THAN 'FOR EVERY INPUT', by the rows' own cells (each row's printed sentence says how): FnGrowWrite: laid · FnExactReadRunes: laid · FnReadRunesAll: laid · FnRunes: laid · FnExactRunBuilder: laid.
  DERIVED. THE GIVEN ROWS OF THIS SEAT. 5 by the template 'for every input the law returns true; each argument reads behind the call as it read before'; 0 by the template 'total and deterministic' (their statements: YtligidloklfnmaaDoorTotals.lean).
  GIVEN WITH THE SEED: the statements are not yours to turn. If you find one false, say at which input.
  Laid BY PROGRAM, IN A SANDBOX (cutbox-rows.mjs): the forced cells as the released guide's own fill.sh prints them over the translation 1f1b412e93a7aa77… (all of the seat's roots in one cut). By AI agents, Wed Nov 11 2026. No macro, syntax, notation, axiom, sorry.
-/
import Derived.Test.YtligidloklfnmaaDoorChecked
import GoSem.PinnedTables
import GoSem.Claim
import GoSem.ClaimJoined
import GoSem.ClaimMapViews
import Derived.JoinedTies
import Derived.KernelRfl
namespace Go.Proofs.YtligidloklfnmaaDoor
/- THE CELL 'sum', in the pinned program and in every row, IS THE sha256 OF THE DUMP (.gsa) THAT YtligidloklfnmaaDoorProg.lean LOADS. Nothing in Lean hashes anything: it is a label: what it is worth is what the hold of that sum in a sandbox is worth. -/
noncomputable def Tryd.pinned : Pinned := { name := "ytligidloklfnmaadoor", sum := "1f1b412e93a7aa77a8b52f4574f36dd4e1394a5fe0e0b8ce7a6aecee59b9126e", checked := Tryd.checked }
namespace Rows
def none {H : Type} : Left H := { results := [], args := [] }

/- WHAT THE LISTED PACKAGE-LEVEL VARIABLES READ AS WHEN THE CALL BEGINS. Each datum BY PROGRAM (the guide's laid-datum.mjs) off the statement by which the dump's own 'gosem.cut.vars' lays the variable. In a bare row this is a premise. The card (YtligidloklfnmaaDoorCards.lean) ties it to the program's text. -/
def laid_bytes_ErrTooLarge {H : Type} : DataW H := .iface "*errors.errorString" (.ptr (.agg [.lit (.string [98, 121, 116, 101, 115, 46, 66, 117, 102, 102, 101, 114, 58, 32, 116, 111, 111, 32, 108, 97, 114, 103, 101])]))
def laid_unicode_utf8_acceptRanges {H : Type} : DataW H := .agg [.agg [.lit (.int .u8 128), .lit (.int .u8 191)], .agg [.lit (.int .u8 160), .lit (.int .u8 191)], .agg [.lit (.int .u8 128), .lit (.int .u8 159)], .agg [.lit (.int .u8 144), .lit (.int .u8 191)], .agg [.lit (.int .u8 128), .lit (.int .u8 143)], .agg [.lit (.int .u8 0), .lit (.int .u8 0)], .agg [.lit (.int .u8 0), .lit (.int .u8 0)], .agg [.lit (.int .u8 0), .lit (.int .u8 0)], .agg [.lit (.int .u8 0), .lit (.int .u8 0)], .agg [.lit (.int .u8 0), .lit (.int .u8 0)], .agg [.lit (.int .u8 0), .lit (.int .u8 0)], .agg [.lit (.int .u8 0), .lit (.int .u8 0)], .agg [.lit (.int .u8 0), .lit (.int .u8 0)], .agg [.lit (.int .u8 0), .lit (.int .u8 0)], .agg [.lit (.int .u8 0), .lit (.int .u8 0)], .agg [.lit (.int .u8 0), .lit (.int .u8 0)]]
def laid_io_EOF {H : Type} : DataW H := .iface "*errors.errorString" (.ptr (.agg [.lit (.string [69, 79, 70])]))
/-- One of Go's own tables, pinned by name: the form's constant. -/
def laid_unicode_utf8_first : DataW Unit := Go.Pinned.utf8First

/-- 'laws.FnGrowWrite': WHATEVER THE INPUT: true; the input reads as it did. -/
def fnGrowWriteSpec : ChangeSpec := { name := "fnGrowWrite", fn := fun _ => fun
  | [d] => { results := [.lit (.bool true)], args := [d] }
  | _ => none }
def fnGrowWriteRow : OpenClaim := { program := "ytligidloklfnmaadoor", sum := "1f1b412e93a7aa77a8b52f4574f36dd4e1394a5fe0e0b8ce7a6aecee59b9126e", func := "loop.example/lib-growingbuffers/laws.FnGrowWrite", spec := "fnGrowWrite", inPlace := ["internal/abi.NoEscape", "internal/bytealg.MakeNoZero"], named := ["bytes.ErrTooLarge"], apart := false, laid := [("bytes.ErrTooLarge", laid_bytes_ErrTooLarge)] }
def FnGrowWriteSaid : Prop := fnGrowWriteRow.holds Tryd.pinned (OpenSpec.ofChange fnGrowWriteSpec)

/-- ITS FALSE NEIGHBOUR: 'it returns false'. Refute it at one input. -/
def fnGrowWriteWrong : ChangeSpec := { name := "fnGrowWrite", fn := fun _ => fun
  | [d] => { results := [.lit (.bool false)], args := [d] }
  | _ => none }
def FnGrowWriteWrongFalsely : Prop := fnGrowWriteRow.holds Tryd.pinned (OpenSpec.ofChange fnGrowWriteWrong)

/-- 'laws.FnExactReadRunes': WHATEVER THE INPUT: true; the input reads as it did. -/
def fnExactReadRunesSpec : ChangeSpec := { name := "fnExactReadRunes", fn := fun _ => fun
  | [d1, d2] => { results := [.lit (.bool true)], args := [d1, d2] }
  | _ => none }
def fnExactReadRunesRow : OpenClaim := { program := "ytligidloklfnmaadoor", sum := "1f1b412e93a7aa77a8b52f4574f36dd4e1394a5fe0e0b8ce7a6aecee59b9126e", func := "loop.example/lib-growingbuffers/laws.FnExactReadRunes", spec := "fnExactReadRunes", named := ["io.EOF", "unicode/utf8.first", "unicode/utf8.acceptRanges"], apart := false, laid := [("unicode/utf8.acceptRanges", laid_unicode_utf8_acceptRanges), ("io.EOF", laid_io_EOF), ("unicode/utf8.first", laid_unicode_utf8_first)] }
def FnExactReadRunesSaid : Prop := fnExactReadRunesRow.holds Tryd.pinned (OpenSpec.ofChange fnExactReadRunesSpec)

/-- ITS FALSE NEIGHBOUR: 'it returns false'. Refute it at one input. -/
def fnExactReadRunesWrong : ChangeSpec := { name := "fnExactReadRunes", fn := fun _ => fun
  | [d1, d2] => { results := [.lit (.bool false)], args := [d1, d2] }
  | _ => none }
def FnExactReadRunesWrongFalsely : Prop := fnExactReadRunesRow.holds Tryd.pinned (OpenSpec.ofChange fnExactReadRunesWrong)

/-- 'laws.FnReadRunesAll': WHATEVER THE INPUT: true; the input reads as it did. -/
def fnReadRunesAllSpec : ChangeSpec := { name := "fnReadRunesAll", fn := fun _ => fun
  | [d] => { results := [.lit (.bool true)], args := [d] }
  | _ => none }
def fnReadRunesAllRow : OpenClaim := { program := "ytligidloklfnmaadoor", sum := "1f1b412e93a7aa77a8b52f4574f36dd4e1394a5fe0e0b8ce7a6aecee59b9126e", func := "loop.example/lib-growingbuffers/laws.FnReadRunesAll", spec := "fnReadRunesAll", named := ["io.EOF", "unicode/utf8.first", "unicode/utf8.acceptRanges", "bytes.ErrTooLarge"], apart := false, laid := [("unicode/utf8.acceptRanges", laid_unicode_utf8_acceptRanges), ("io.EOF", laid_io_EOF), ("bytes.ErrTooLarge", laid_bytes_ErrTooLarge), ("unicode/utf8.first", laid_unicode_utf8_first)] }
def FnReadRunesAllSaid : Prop := fnReadRunesAllRow.holds Tryd.pinned (OpenSpec.ofChange fnReadRunesAllSpec)

/-- ITS FALSE NEIGHBOUR: 'it returns false'. Refute it at one input. -/
def fnReadRunesAllWrong : ChangeSpec := { name := "fnReadRunesAll", fn := fun _ => fun
  | [d] => { results := [.lit (.bool false)], args := [d] }
  | _ => none }
def FnReadRunesAllWrongFalsely : Prop := fnReadRunesAllRow.holds Tryd.pinned (OpenSpec.ofChange fnReadRunesAllWrong)

/-- 'laws.FnRunes': WHATEVER THE INPUT: true; the input reads as it did. -/
def fnRunesSpec : ChangeSpec := { name := "fnRunes", fn := fun _ => fun
  | [d] => { results := [.lit (.bool true)], args := [d] }
  | _ => none }
def fnRunesRow : OpenClaim := { program := "ytligidloklfnmaadoor", sum := "1f1b412e93a7aa77a8b52f4574f36dd4e1394a5fe0e0b8ce7a6aecee59b9126e", func := "loop.example/lib-growingbuffers/laws.FnRunes", spec := "fnRunes", named := ["bytes.ErrTooLarge", "io.EOF", "unicode/utf8.first", "unicode/utf8.acceptRanges"], apart := false, laid := [("unicode/utf8.acceptRanges", laid_unicode_utf8_acceptRanges), ("io.EOF", laid_io_EOF), ("bytes.ErrTooLarge", laid_bytes_ErrTooLarge), ("unicode/utf8.first", laid_unicode_utf8_first)] }
def FnRunesSaid : Prop := fnRunesRow.holds Tryd.pinned (OpenSpec.ofChange fnRunesSpec)

/-- ITS FALSE NEIGHBOUR: 'it returns false'. Refute it at one input. -/
def fnRunesWrong : ChangeSpec := { name := "fnRunes", fn := fun _ => fun
  | [d] => { results := [.lit (.bool false)], args := [d] }
  | _ => none }
def FnRunesWrongFalsely : Prop := fnRunesRow.holds Tryd.pinned (OpenSpec.ofChange fnRunesWrong)

/-- 'laws.FnExactRunBuilder': WHATEVER THE INPUT: true; the input reads as it did. -/
def fnExactRunBuilderSpec : ChangeSpec := { name := "fnExactRunBuilder", fn := fun _ => fun
  | [d] => { results := [.lit (.bool true)], args := [d] }
  | _ => none }
def fnExactRunBuilderRow : OpenClaim := { program := "ytligidloklfnmaadoor", sum := "1f1b412e93a7aa77a8b52f4574f36dd4e1394a5fe0e0b8ce7a6aecee59b9126e", func := "loop.example/lib-growingbuffers/laws.FnExactRunBuilder", spec := "fnExactRunBuilder", inPlace := ["internal/abi.NoEscape", "internal/bytealg.MakeNoZero"], unfollowed := true, recurses := true, named := ["io.EOF"], apart := false, laid := [("io.EOF", laid_io_EOF)] }
def FnExactRunBuilderSaid : Prop := fnExactRunBuilderRow.holds Tryd.pinned (OpenSpec.ofChange fnExactRunBuilderSpec)

/-- ITS FALSE NEIGHBOUR: 'it returns false'. Refute it at one input. -/
def fnExactRunBuilderWrong : ChangeSpec := { name := "fnExactRunBuilder", fn := fun _ => fun
  | [d] => { results := [.lit (.bool false)], args := [d] }
  | _ => none }
def FnExactRunBuilderWrongFalsely : Prop := fnExactRunBuilderRow.holds Tryd.pinned (OpenSpec.ofChange fnExactRunBuilderWrong)

/- THE SECOND FORM. 'bulk': how many values and letters a reading holds, each counted each time it is reached (what is shared counts as often as it is met; a slice's spare places count too). A statement '..UptoSaid' is the law's where the arguments, and the package variables that the reading takes, are together of bulk at most 1048576: NARROWER than '..Said'. Prove '..Said' where nothing that the law and all that it calls make is longer than what came in: it says more and counts as full. Else prove '..UptoSaid'. A law counts once. -/
mutual
def uptoBulk {H : Type} : DataW H → Nat
  | .lit (.string bytes) => bytes.length + 1
  | .lit _ => 1
  | .nil => 1
  | .ptr d => uptoBulk d + 1
  | .slice elems spare => uptoBulkAll elems + uptoBulkAll spare + 1
  | .agg parts => uptoBulkAll parts + 1
  | .iface _ d => uptoBulk d + 1
  | .map entries => uptoBulkEntries entries + 1
  | .held _ => 1
def uptoBulkAll {H : Type} : List (DataW H) → Nat
  | [] => 0
  | d :: r => uptoBulk d + uptoBulkAll r
def uptoBulkEntries {H : Type} : List (Lit × DataW H) → Nat
  | [] => 0
  | x :: r => uptoBulkEntry x + uptoBulkEntries r
def uptoBulkEntry {H : Type} : Lit × DataW H → Nat
  | (.string bytes, d) => bytes.length + uptoBulk d + 1
  | (_, d) => uptoBulk d + 1
 end
def uptoSmall : (H : Type) → List (DataW H) → Bool := fun _ ds => decide (uptoBulkAll ds ≤ 1048576)
def OpenSpec.upto (s : _root_.Go.ChangeSpec) : _root_.Go.OpenSpec := { _root_.Go.OpenSpec.ofChange s with cond := some uptoSmall }

/-- 'laws.FnGrowWrite', WHERE WHAT IT READS IS OF BULK AT MOST 1048576: true; the input reads as it did. -/
def fnGrowWriteUptoRow : OpenClaim := { program := "ytligidloklfnmaadoor", sum := "1f1b412e93a7aa77a8b52f4574f36dd4e1394a5fe0e0b8ce7a6aecee59b9126e", func := "loop.example/lib-growingbuffers/laws.FnGrowWrite", spec := "fnGrowWrite", inPlace := ["internal/abi.NoEscape", "internal/bytealg.MakeNoZero"], named := ["bytes.ErrTooLarge"], apart := false, laid := [("bytes.ErrTooLarge", laid_bytes_ErrTooLarge)], narrowed := true }
def FnGrowWriteUptoSaid : Prop := fnGrowWriteUptoRow.holds Tryd.pinned (OpenSpec.upto fnGrowWriteSpec)

/-- 'laws.FnExactReadRunes', WHERE WHAT IT READS IS OF BULK AT MOST 1048576: true; the input reads as it did. -/
def fnExactReadRunesUptoRow : OpenClaim := { program := "ytligidloklfnmaadoor", sum := "1f1b412e93a7aa77a8b52f4574f36dd4e1394a5fe0e0b8ce7a6aecee59b9126e", func := "loop.example/lib-growingbuffers/laws.FnExactReadRunes", spec := "fnExactReadRunes", named := ["io.EOF", "unicode/utf8.first", "unicode/utf8.acceptRanges"], apart := false, laid := [("unicode/utf8.acceptRanges", laid_unicode_utf8_acceptRanges), ("io.EOF", laid_io_EOF), ("unicode/utf8.first", laid_unicode_utf8_first)], narrowed := true }
def FnExactReadRunesUptoSaid : Prop := fnExactReadRunesUptoRow.holds Tryd.pinned (OpenSpec.upto fnExactReadRunesSpec)

/-- 'laws.FnReadRunesAll', WHERE WHAT IT READS IS OF BULK AT MOST 1048576: true; the input reads as it did. -/
def fnReadRunesAllUptoRow : OpenClaim := { program := "ytligidloklfnmaadoor", sum := "1f1b412e93a7aa77a8b52f4574f36dd4e1394a5fe0e0b8ce7a6aecee59b9126e", func := "loop.example/lib-growingbuffers/laws.FnReadRunesAll", spec := "fnReadRunesAll", named := ["io.EOF", "unicode/utf8.first", "unicode/utf8.acceptRanges", "bytes.ErrTooLarge"], apart := false, laid := [("unicode/utf8.acceptRanges", laid_unicode_utf8_acceptRanges), ("io.EOF", laid_io_EOF), ("bytes.ErrTooLarge", laid_bytes_ErrTooLarge), ("unicode/utf8.first", laid_unicode_utf8_first)], narrowed := true }
def FnReadRunesAllUptoSaid : Prop := fnReadRunesAllUptoRow.holds Tryd.pinned (OpenSpec.upto fnReadRunesAllSpec)

/-- 'laws.FnRunes', WHERE WHAT IT READS IS OF BULK AT MOST 1048576: true; the input reads as it did. -/
def fnRunesUptoRow : OpenClaim := { program := "ytligidloklfnmaadoor", sum := "1f1b412e93a7aa77a8b52f4574f36dd4e1394a5fe0e0b8ce7a6aecee59b9126e", func := "loop.example/lib-growingbuffers/laws.FnRunes", spec := "fnRunes", named := ["bytes.ErrTooLarge", "io.EOF", "unicode/utf8.first", "unicode/utf8.acceptRanges"], apart := false, laid := [("unicode/utf8.acceptRanges", laid_unicode_utf8_acceptRanges), ("io.EOF", laid_io_EOF), ("bytes.ErrTooLarge", laid_bytes_ErrTooLarge), ("unicode/utf8.first", laid_unicode_utf8_first)], narrowed := true }
def FnRunesUptoSaid : Prop := fnRunesUptoRow.holds Tryd.pinned (OpenSpec.upto fnRunesSpec)

/-- 'laws.FnExactRunBuilder', WHERE WHAT IT READS IS OF BULK AT MOST 1048576: true; the input reads as it did. -/
def fnExactRunBuilderUptoRow : OpenClaim := { program := "ytligidloklfnmaadoor", sum := "1f1b412e93a7aa77a8b52f4574f36dd4e1394a5fe0e0b8ce7a6aecee59b9126e", func := "loop.example/lib-growingbuffers/laws.FnExactRunBuilder", spec := "fnExactRunBuilder", inPlace := ["internal/abi.NoEscape", "internal/bytealg.MakeNoZero"], unfollowed := true, recurses := true, named := ["io.EOF"], apart := false, laid := [("io.EOF", laid_io_EOF)], narrowed := true }
def FnExactRunBuilderUptoSaid : Prop := fnExactRunBuilderUptoRow.holds Tryd.pinned (OpenSpec.upto fnExactRunBuilderSpec)

end Rows
end Go.Proofs.YtligidloklfnmaaDoor
