/-
  NARROWER THAN 'FOR EVERY INPUT', by the rows' own cells (each row's printed sentence says how): FnBuilderRunes: laid · FnExactReadFrom: laid · FnReadFromRoad: laid · FnExactReadRunes: laid · FnReadRunesAll: laid · FnRunes: laid · FnExactRunBuilder: laid · FnScriptBuilder: laid · FnExactRunBuffer: laid · FnUnreadByte: laid · FnUnreadRune: laid · FnUnreadTwice: laid.
  DERIVED. THE GIVEN ROWS OF THIS SEAT. 12 by the template 'for every input the law returns true; each argument reads behind the call as it read before'; 0 by the template 'total and deterministic' (their statements: YtnpaokglfkocnaaDoorTotals.lean).
  GIVEN WITH THE SEED: the statements are not yours to turn. If you find one false, say at which input.
  Laid BY PROGRAM, IN A SANDBOX (cutbox-rows.mjs): the forced cells as the released guide's own fill.sh prints them over the translation b89b7fd79db0ae24… (all of the seat's roots in one cut). By AI agents, Wed Nov 11 2026. No macro, syntax, notation, axiom, sorry.
-/
import Derived.Test.YtnpaokglfkocnaaDoorChecked
import GoSem.PinnedTables
import GoSem.Claim
import GoSem.ClaimJoined
import GoSem.ClaimMapViews
import Derived.JoinedTies
import Derived.KernelRfl
namespace Go.Proofs.YtnpaokglfkocnaaDoor
/- THE CELL 'sum', in the pinned program and in every row, IS THE sha256 OF THE DUMP (.gsa) THAT YtnpaokglfkocnaaDoorProg.lean LOADS. Nothing in Lean hashes anything: it is a label: what it is worth is what the hold of that sum in a sandbox is worth. -/
noncomputable def Tryd.pinned : Pinned := { name := "ytnpaokglfkocnaadoor", sum := "b89b7fd79db0ae242d0de9064ce0f4907b9ea778f84d118149b720c3526274fd", checked := Tryd.checked }
namespace Rows
def none {H : Type} : Left H := { results := [], args := [] }

/- WHAT THE LISTED PACKAGE-LEVEL VARIABLES READ AS WHEN THE CALL BEGINS. Each datum BY PROGRAM (the guide's laid-datum.mjs) off the statement by which the dump's own 'gosem.cut.vars' lays the variable. In a bare row this is a premise. The card (YtnpaokglfkocnaaDoorCards.lean) ties it to the program's text. -/
def laid_bytes_ErrTooLarge {H : Type} : DataW H := .iface "*errors.errorString" (.ptr (.agg [.lit (.string [98, 121, 116, 101, 115, 46, 66, 117, 102, 102, 101, 114, 58, 32, 116, 111, 111, 32, 108, 97, 114, 103, 101])]))
def laid_io_EOF {H : Type} : DataW H := .iface "*errors.errorString" (.ptr (.agg [.lit (.string [69, 79, 70])]))
def laid_bytes_errNegativeRead {H : Type} : DataW H := .iface "*errors.errorString" (.ptr (.agg [.lit (.string [98, 121, 116, 101, 115, 46, 66, 117, 102, 102, 101, 114, 58, 32, 114, 101, 97, 100, 101, 114, 32, 114, 101, 116, 117, 114, 110, 101, 100, 32, 110, 101, 103, 97, 116, 105, 118, 101, 32, 99, 111, 117, 110, 116, 32, 102, 114, 111, 109, 32, 82, 101, 97, 100])]))
def laid_unicode_utf8_acceptRanges {H : Type} : DataW H := .agg [.agg [.lit (.int .u8 128), .lit (.int .u8 191)], .agg [.lit (.int .u8 160), .lit (.int .u8 191)], .agg [.lit (.int .u8 128), .lit (.int .u8 159)], .agg [.lit (.int .u8 144), .lit (.int .u8 191)], .agg [.lit (.int .u8 128), .lit (.int .u8 143)], .agg [.lit (.int .u8 0), .lit (.int .u8 0)], .agg [.lit (.int .u8 0), .lit (.int .u8 0)], .agg [.lit (.int .u8 0), .lit (.int .u8 0)], .agg [.lit (.int .u8 0), .lit (.int .u8 0)], .agg [.lit (.int .u8 0), .lit (.int .u8 0)], .agg [.lit (.int .u8 0), .lit (.int .u8 0)], .agg [.lit (.int .u8 0), .lit (.int .u8 0)], .agg [.lit (.int .u8 0), .lit (.int .u8 0)], .agg [.lit (.int .u8 0), .lit (.int .u8 0)], .agg [.lit (.int .u8 0), .lit (.int .u8 0)], .agg [.lit (.int .u8 0), .lit (.int .u8 0)]]
/-- One of Go's own tables, pinned by name: the form's constant. -/
def laid_unicode_utf8_first : DataW Unit := Go.Pinned.utf8First
def laid_bytes_errUnreadByte {H : Type} : DataW H := .iface "*errors.errorString" (.ptr (.agg [.lit (.string [98, 121, 116, 101, 115, 46, 66, 117, 102, 102, 101, 114, 58, 32, 85, 110, 114, 101, 97, 100, 66, 121, 116, 101, 58, 32, 112, 114, 101, 118, 105, 111, 117, 115, 32, 111, 112, 101, 114, 97, 116, 105, 111, 110, 32, 119, 97, 115, 32, 110, 111, 116, 32, 97, 32, 115, 117, 99, 99, 101, 115, 115, 102, 117, 108, 32, 114, 101, 97, 100])]))

/-- 'laws.FnBuilderRunes': WHATEVER THE INPUT: true; the input reads as it did. -/
def fnBuilderRunesSpec : ChangeSpec := { name := "fnBuilderRunes", fn := fun _ => fun
  | [d] => { results := [.lit (.bool true)], args := [d] }
  | _ => none }
def fnBuilderRunesRow : OpenClaim := { program := "ytnpaokglfkocnaadoor", sum := "b89b7fd79db0ae242d0de9064ce0f4907b9ea778f84d118149b720c3526274fd", func := "loop.example/lib-growingbuffers/laws.FnBuilderRunes", spec := "fnBuilderRunes", inPlace := ["internal/abi.NoEscape"], named := ["bytes.ErrTooLarge"], apart := false, laid := [("bytes.ErrTooLarge", laid_bytes_ErrTooLarge)] }
def FnBuilderRunesSaid : Prop := fnBuilderRunesRow.holds Tryd.pinned (OpenSpec.ofChange fnBuilderRunesSpec)

/-- ITS FALSE NEIGHBOUR: 'it returns false'. Refute it at one input. -/
def fnBuilderRunesWrong : ChangeSpec := { name := "fnBuilderRunes", fn := fun _ => fun
  | [d] => { results := [.lit (.bool false)], args := [d] }
  | _ => none }
def FnBuilderRunesWrongFalsely : Prop := fnBuilderRunesRow.holds Tryd.pinned (OpenSpec.ofChange fnBuilderRunesWrong)

/-- 'laws.FnExactReadFrom': WHATEVER THE INPUT: true; the input reads as it did. -/
def fnExactReadFromSpec : ChangeSpec := { name := "fnExactReadFrom", fn := fun _ => fun
  | [d1, d2, d3, d4] => { results := [.lit (.bool true)], args := [d1, d2, d3, d4] }
  | _ => none }
def fnExactReadFromRow : OpenClaim := { program := "ytnpaokglfkocnaadoor", sum := "b89b7fd79db0ae242d0de9064ce0f4907b9ea778f84d118149b720c3526274fd", func := "loop.example/lib-growingbuffers/laws.FnExactReadFrom", spec := "fnExactReadFrom", unfollowed := true, recurses := true, named := ["bytes.errNegativeRead", "io.EOF", "bytes.ErrTooLarge"], apart := false, laid := [("io.EOF", laid_io_EOF), ("bytes.ErrTooLarge", laid_bytes_ErrTooLarge), ("bytes.errNegativeRead", laid_bytes_errNegativeRead)] }
def FnExactReadFromSaid : Prop := fnExactReadFromRow.holds Tryd.pinned (OpenSpec.ofChange fnExactReadFromSpec)

/-- ITS FALSE NEIGHBOUR: 'it returns false'. Refute it at one input. -/
def fnExactReadFromWrong : ChangeSpec := { name := "fnExactReadFrom", fn := fun _ => fun
  | [d1, d2, d3, d4] => { results := [.lit (.bool false)], args := [d1, d2, d3, d4] }
  | _ => none }
def FnExactReadFromWrongFalsely : Prop := fnExactReadFromRow.holds Tryd.pinned (OpenSpec.ofChange fnExactReadFromWrong)

/-- 'laws.FnReadFromRoad': WHATEVER THE INPUT: true; the input reads as it did. -/
def fnReadFromRoadSpec : ChangeSpec := { name := "fnReadFromRoad", fn := fun _ => fun
  | [d] => { results := [.lit (.bool true)], args := [d] }
  | _ => none }
def fnReadFromRoadRow : OpenClaim := { program := "ytnpaokglfkocnaadoor", sum := "b89b7fd79db0ae242d0de9064ce0f4907b9ea778f84d118149b720c3526274fd", func := "loop.example/lib-growingbuffers/laws.FnReadFromRoad", spec := "fnReadFromRoad", unfollowed := true, recurses := true, named := ["bytes.errNegativeRead", "io.EOF", "bytes.ErrTooLarge"], apart := false, laid := [("io.EOF", laid_io_EOF), ("bytes.ErrTooLarge", laid_bytes_ErrTooLarge), ("bytes.errNegativeRead", laid_bytes_errNegativeRead)] }
def FnReadFromRoadSaid : Prop := fnReadFromRoadRow.holds Tryd.pinned (OpenSpec.ofChange fnReadFromRoadSpec)

/-- ITS FALSE NEIGHBOUR: 'it returns false'. Refute it at one input. -/
def fnReadFromRoadWrong : ChangeSpec := { name := "fnReadFromRoad", fn := fun _ => fun
  | [d] => { results := [.lit (.bool false)], args := [d] }
  | _ => none }
def FnReadFromRoadWrongFalsely : Prop := fnReadFromRoadRow.holds Tryd.pinned (OpenSpec.ofChange fnReadFromRoadWrong)

/-- 'laws.FnExactReadRunes': WHATEVER THE INPUT: true; the input reads as it did. -/
def fnExactReadRunesSpec : ChangeSpec := { name := "fnExactReadRunes", fn := fun _ => fun
  | [d1, d2] => { results := [.lit (.bool true)], args := [d1, d2] }
  | _ => none }
def fnExactReadRunesRow : OpenClaim := { program := "ytnpaokglfkocnaadoor", sum := "b89b7fd79db0ae242d0de9064ce0f4907b9ea778f84d118149b720c3526274fd", func := "loop.example/lib-growingbuffers/laws.FnExactReadRunes", spec := "fnExactReadRunes", named := ["io.EOF", "unicode/utf8.first", "unicode/utf8.acceptRanges"], apart := false, laid := [("unicode/utf8.acceptRanges", laid_unicode_utf8_acceptRanges), ("io.EOF", laid_io_EOF), ("unicode/utf8.first", laid_unicode_utf8_first)] }
def FnExactReadRunesSaid : Prop := fnExactReadRunesRow.holds Tryd.pinned (OpenSpec.ofChange fnExactReadRunesSpec)

/-- ITS FALSE NEIGHBOUR: 'it returns false'. Refute it at one input. -/
def fnExactReadRunesWrong : ChangeSpec := { name := "fnExactReadRunes", fn := fun _ => fun
  | [d1, d2] => { results := [.lit (.bool false)], args := [d1, d2] }
  | _ => none }
def FnExactReadRunesWrongFalsely : Prop := fnExactReadRunesRow.holds Tryd.pinned (OpenSpec.ofChange fnExactReadRunesWrong)

/-- 'laws.FnReadRunesAll': WHATEVER THE INPUT: true; the input reads as it did. -/
def fnReadRunesAllSpec : ChangeSpec := { name := "fnReadRunesAll", fn := fun _ => fun
  | [d] => { results := [.lit (.bool true)], args := [d] }
  | _ => none }
def fnReadRunesAllRow : OpenClaim := { program := "ytnpaokglfkocnaadoor", sum := "b89b7fd79db0ae242d0de9064ce0f4907b9ea778f84d118149b720c3526274fd", func := "loop.example/lib-growingbuffers/laws.FnReadRunesAll", spec := "fnReadRunesAll", named := ["io.EOF", "unicode/utf8.first", "unicode/utf8.acceptRanges", "bytes.ErrTooLarge"], apart := false, laid := [("unicode/utf8.acceptRanges", laid_unicode_utf8_acceptRanges), ("io.EOF", laid_io_EOF), ("bytes.ErrTooLarge", laid_bytes_ErrTooLarge), ("unicode/utf8.first", laid_unicode_utf8_first)] }
def FnReadRunesAllSaid : Prop := fnReadRunesAllRow.holds Tryd.pinned (OpenSpec.ofChange fnReadRunesAllSpec)

/-- ITS FALSE NEIGHBOUR: 'it returns false'. Refute it at one input. -/
def fnReadRunesAllWrong : ChangeSpec := { name := "fnReadRunesAll", fn := fun _ => fun
  | [d] => { results := [.lit (.bool false)], args := [d] }
  | _ => none }
def FnReadRunesAllWrongFalsely : Prop := fnReadRunesAllRow.holds Tryd.pinned (OpenSpec.ofChange fnReadRunesAllWrong)

/-- 'laws.FnRunes': WHATEVER THE INPUT: true; the input reads as it did. -/
def fnRunesSpec : ChangeSpec := { name := "fnRunes", fn := fun _ => fun
  | [d] => { results := [.lit (.bool true)], args := [d] }
  | _ => none }
def fnRunesRow : OpenClaim := { program := "ytnpaokglfkocnaadoor", sum := "b89b7fd79db0ae242d0de9064ce0f4907b9ea778f84d118149b720c3526274fd", func := "loop.example/lib-growingbuffers/laws.FnRunes", spec := "fnRunes", named := ["bytes.ErrTooLarge", "io.EOF", "unicode/utf8.first", "unicode/utf8.acceptRanges"], apart := false, laid := [("unicode/utf8.acceptRanges", laid_unicode_utf8_acceptRanges), ("io.EOF", laid_io_EOF), ("bytes.ErrTooLarge", laid_bytes_ErrTooLarge), ("unicode/utf8.first", laid_unicode_utf8_first)] }
def FnRunesSaid : Prop := fnRunesRow.holds Tryd.pinned (OpenSpec.ofChange fnRunesSpec)

/-- ITS FALSE NEIGHBOUR: 'it returns false'. Refute it at one input. -/
def fnRunesWrong : ChangeSpec := { name := "fnRunes", fn := fun _ => fun
  | [d] => { results := [.lit (.bool false)], args := [d] }
  | _ => none }
def FnRunesWrongFalsely : Prop := fnRunesRow.holds Tryd.pinned (OpenSpec.ofChange fnRunesWrong)

/-- 'laws.FnExactRunBuilder': WHATEVER THE INPUT: true; the input reads as it did. -/
def fnExactRunBuilderSpec : ChangeSpec := { name := "fnExactRunBuilder", fn := fun _ => fun
  | [d] => { results := [.lit (.bool true)], args := [d] }
  | _ => none }
def fnExactRunBuilderRow : OpenClaim := { program := "ytnpaokglfkocnaadoor", sum := "b89b7fd79db0ae242d0de9064ce0f4907b9ea778f84d118149b720c3526274fd", func := "loop.example/lib-growingbuffers/laws.FnExactRunBuilder", spec := "fnExactRunBuilder", inPlace := ["internal/abi.NoEscape", "internal/bytealg.MakeNoZero"], unfollowed := true, recurses := true, named := ["io.EOF"], apart := false, laid := [("io.EOF", laid_io_EOF)] }
def FnExactRunBuilderSaid : Prop := fnExactRunBuilderRow.holds Tryd.pinned (OpenSpec.ofChange fnExactRunBuilderSpec)

/-- ITS FALSE NEIGHBOUR: 'it returns false'. Refute it at one input. -/
def fnExactRunBuilderWrong : ChangeSpec := { name := "fnExactRunBuilder", fn := fun _ => fun
  | [d] => { results := [.lit (.bool false)], args := [d] }
  | _ => none }
def FnExactRunBuilderWrongFalsely : Prop := fnExactRunBuilderRow.holds Tryd.pinned (OpenSpec.ofChange fnExactRunBuilderWrong)

/-- 'laws.FnScriptBuilder': WHATEVER THE INPUT: true; the input reads as it did. -/
def fnScriptBuilderSpec : ChangeSpec := { name := "fnScriptBuilder", fn := fun _ => fun
  | [d] => { results := [.lit (.bool true)], args := [d] }
  | _ => none }
def fnScriptBuilderRow : OpenClaim := { program := "ytnpaokglfkocnaadoor", sum := "b89b7fd79db0ae242d0de9064ce0f4907b9ea778f84d118149b720c3526274fd", func := "loop.example/lib-growingbuffers/laws.FnScriptBuilder", spec := "fnScriptBuilder", inPlace := ["internal/abi.NoEscape", "internal/bytealg.MakeNoZero", "internal/bytealg.IndexByte"], unfollowed := true, recurses := true, named := ["io.EOF", "bytes.ErrTooLarge", "unicode/utf8.first", "unicode/utf8.acceptRanges", "bytes.errUnreadByte"], apart := false, laid := [("unicode/utf8.acceptRanges", laid_unicode_utf8_acceptRanges), ("io.EOF", laid_io_EOF), ("bytes.ErrTooLarge", laid_bytes_ErrTooLarge), ("bytes.errUnreadByte", laid_bytes_errUnreadByte), ("unicode/utf8.first", laid_unicode_utf8_first)] }
def FnScriptBuilderSaid : Prop := fnScriptBuilderRow.holds Tryd.pinned (OpenSpec.ofChange fnScriptBuilderSpec)

/-- ITS FALSE NEIGHBOUR: 'it returns false'. Refute it at one input. -/
def fnScriptBuilderWrong : ChangeSpec := { name := "fnScriptBuilder", fn := fun _ => fun
  | [d] => { results := [.lit (.bool false)], args := [d] }
  | _ => none }
def FnScriptBuilderWrongFalsely : Prop := fnScriptBuilderRow.holds Tryd.pinned (OpenSpec.ofChange fnScriptBuilderWrong)

/-- 'laws.FnExactRunBuffer': WHATEVER THE INPUT: true; the input reads as it did. -/
def fnExactRunBufferSpec : ChangeSpec := { name := "fnExactRunBuffer", fn := fun _ => fun
  | [d1, d2] => { results := [.lit (.bool true)], args := [d1, d2] }
  | _ => none }
def fnExactRunBufferRow : OpenClaim := { program := "ytnpaokglfkocnaadoor", sum := "b89b7fd79db0ae242d0de9064ce0f4907b9ea778f84d118149b720c3526274fd", func := "loop.example/lib-growingbuffers/laws.FnExactRunBuffer", spec := "fnExactRunBuffer", inPlace := ["internal/bytealg.IndexByte"], unfollowed := true, recurses := true, named := ["bytes.ErrTooLarge", "io.EOF", "unicode/utf8.first", "unicode/utf8.acceptRanges", "bytes.errUnreadByte"], apart := false, laid := [("unicode/utf8.acceptRanges", laid_unicode_utf8_acceptRanges), ("io.EOF", laid_io_EOF), ("bytes.ErrTooLarge", laid_bytes_ErrTooLarge), ("bytes.errUnreadByte", laid_bytes_errUnreadByte), ("unicode/utf8.first", laid_unicode_utf8_first)] }
def FnExactRunBufferSaid : Prop := fnExactRunBufferRow.holds Tryd.pinned (OpenSpec.ofChange fnExactRunBufferSpec)

/-- ITS FALSE NEIGHBOUR: 'it returns false'. Refute it at one input. -/
def fnExactRunBufferWrong : ChangeSpec := { name := "fnExactRunBuffer", fn := fun _ => fun
  | [d1, d2] => { results := [.lit (.bool false)], args := [d1, d2] }
  | _ => none }
def FnExactRunBufferWrongFalsely : Prop := fnExactRunBufferRow.holds Tryd.pinned (OpenSpec.ofChange fnExactRunBufferWrong)

/-- 'laws.FnUnreadByte': WHATEVER THE INPUT: true; the input reads as it did. -/
def fnUnreadByteSpec : ChangeSpec := { name := "fnUnreadByte", fn := fun _ => fun
  | [d] => { results := [.lit (.bool true)], args := [d] }
  | _ => none }
def fnUnreadByteRow : OpenClaim := { program := "ytnpaokglfkocnaadoor", sum := "b89b7fd79db0ae242d0de9064ce0f4907b9ea778f84d118149b720c3526274fd", func := "loop.example/lib-growingbuffers/laws.FnUnreadByte", spec := "fnUnreadByte", inPlace := ["internal/bytealg.IndexByte"], unfollowed := true, recurses := true, named := ["bytes.ErrTooLarge", "io.EOF", "unicode/utf8.first", "unicode/utf8.acceptRanges", "bytes.errUnreadByte"], apart := false, laid := [("unicode/utf8.acceptRanges", laid_unicode_utf8_acceptRanges), ("io.EOF", laid_io_EOF), ("bytes.ErrTooLarge", laid_bytes_ErrTooLarge), ("bytes.errUnreadByte", laid_bytes_errUnreadByte), ("unicode/utf8.first", laid_unicode_utf8_first)] }
def FnUnreadByteSaid : Prop := fnUnreadByteRow.holds Tryd.pinned (OpenSpec.ofChange fnUnreadByteSpec)

/-- ITS FALSE NEIGHBOUR: 'it returns false'. Refute it at one input. -/
def fnUnreadByteWrong : ChangeSpec := { name := "fnUnreadByte", fn := fun _ => fun
  | [d] => { results := [.lit (.bool false)], args := [d] }
  | _ => none }
def FnUnreadByteWrongFalsely : Prop := fnUnreadByteRow.holds Tryd.pinned (OpenSpec.ofChange fnUnreadByteWrong)

/-- 'laws.FnUnreadRune': WHATEVER THE INPUT: true; the input reads as it did. -/
def fnUnreadRuneSpec : ChangeSpec := { name := "fnUnreadRune", fn := fun _ => fun
  | [d] => { results := [.lit (.bool true)], args := [d] }
  | _ => none }
def fnUnreadRuneRow : OpenClaim := { program := "ytnpaokglfkocnaadoor", sum := "b89b7fd79db0ae242d0de9064ce0f4907b9ea778f84d118149b720c3526274fd", func := "loop.example/lib-growingbuffers/laws.FnUnreadRune", spec := "fnUnreadRune", inPlace := ["internal/bytealg.IndexByte"], unfollowed := true, recurses := true, named := ["bytes.ErrTooLarge", "io.EOF", "unicode/utf8.first", "unicode/utf8.acceptRanges", "bytes.errUnreadByte"], apart := false, laid := [("unicode/utf8.acceptRanges", laid_unicode_utf8_acceptRanges), ("io.EOF", laid_io_EOF), ("bytes.ErrTooLarge", laid_bytes_ErrTooLarge), ("bytes.errUnreadByte", laid_bytes_errUnreadByte), ("unicode/utf8.first", laid_unicode_utf8_first)] }
def FnUnreadRuneSaid : Prop := fnUnreadRuneRow.holds Tryd.pinned (OpenSpec.ofChange fnUnreadRuneSpec)

/-- ITS FALSE NEIGHBOUR: 'it returns false'. Refute it at one input. -/
def fnUnreadRuneWrong : ChangeSpec := { name := "fnUnreadRune", fn := fun _ => fun
  | [d] => { results := [.lit (.bool false)], args := [d] }
  | _ => none }
def FnUnreadRuneWrongFalsely : Prop := fnUnreadRuneRow.holds Tryd.pinned (OpenSpec.ofChange fnUnreadRuneWrong)

/-- 'laws.FnUnreadTwice': WHATEVER THE INPUT: true; the input reads as it did. -/
def fnUnreadTwiceSpec : ChangeSpec := { name := "fnUnreadTwice", fn := fun _ => fun
  | [d] => { results := [.lit (.bool true)], args := [d] }
  | _ => none }
def fnUnreadTwiceRow : OpenClaim := { program := "ytnpaokglfkocnaadoor", sum := "b89b7fd79db0ae242d0de9064ce0f4907b9ea778f84d118149b720c3526274fd", func := "loop.example/lib-growingbuffers/laws.FnUnreadTwice", spec := "fnUnreadTwice", inPlace := ["internal/bytealg.IndexByte"], unfollowed := true, recurses := true, named := ["bytes.ErrTooLarge", "io.EOF", "unicode/utf8.first", "unicode/utf8.acceptRanges", "bytes.errUnreadByte"], apart := false, laid := [("unicode/utf8.acceptRanges", laid_unicode_utf8_acceptRanges), ("io.EOF", laid_io_EOF), ("bytes.ErrTooLarge", laid_bytes_ErrTooLarge), ("bytes.errUnreadByte", laid_bytes_errUnreadByte), ("unicode/utf8.first", laid_unicode_utf8_first)] }
def FnUnreadTwiceSaid : Prop := fnUnreadTwiceRow.holds Tryd.pinned (OpenSpec.ofChange fnUnreadTwiceSpec)

/-- ITS FALSE NEIGHBOUR: 'it returns false'. Refute it at one input. -/
def fnUnreadTwiceWrong : ChangeSpec := { name := "fnUnreadTwice", fn := fun _ => fun
  | [d] => { results := [.lit (.bool false)], args := [d] }
  | _ => none }
def FnUnreadTwiceWrongFalsely : Prop := fnUnreadTwiceRow.holds Tryd.pinned (OpenSpec.ofChange fnUnreadTwiceWrong)

/- THE SECOND FORM. 'bulk': how many values and letters a reading holds, each counted each time it is reached (what is shared counts as often as it is met; a slice's spare places count too). A statement '..UptoSaid' is the law's where the arguments, and the package variables that the reading takes, are together of bulk at most 1048576: NARROWER than '..Said'. Prove '..Said' where nothing that the law and all that it calls make is longer than what came in: it says more and counts as full. Else prove '..UptoSaid'. A law counts once. -/
mutual
def uptoBulk {H : Type} : DataW H → Nat
  | .lit (.string bytes) => bytes.length + 1
  | .lit _ => 1
  | .nil => 1
  | .ptr d => uptoBulk d + 1
  | .slice elems spare => uptoBulkAll elems + uptoBulkAll spare + 1
  | .agg parts => uptoBulkAll parts + 1
  | .iface _ d => uptoBulk d + 1
  | .map entries => uptoBulkEntries entries + 1
  | .held _ => 1
def uptoBulkAll {H : Type} : List (DataW H) → Nat
  | [] => 0
  | d :: r => uptoBulk d + uptoBulkAll r
def uptoBulkEntries {H : Type} : List (Lit × DataW H) → Nat
  | [] => 0
  | x :: r => uptoBulkEntry x + uptoBulkEntries r
def uptoBulkEntry {H : Type} : Lit × DataW H → Nat
  | (.string bytes, d) => bytes.length + uptoBulk d + 1
  | (_, d) => uptoBulk d + 1
 end
def uptoSmall : (H : Type) → List (DataW H) → Bool := fun _ ds => decide (uptoBulkAll ds ≤ 1048576)
def OpenSpec.upto (s : _root_.Go.ChangeSpec) : _root_.Go.OpenSpec := { _root_.Go.OpenSpec.ofChange s with cond := some uptoSmall }

/-- 'laws.FnBuilderRunes', WHERE WHAT IT READS IS OF BULK AT MOST 1048576: true; the input reads as it did. -/
def fnBuilderRunesUptoRow : OpenClaim := { program := "ytnpaokglfkocnaadoor", sum := "b89b7fd79db0ae242d0de9064ce0f4907b9ea778f84d118149b720c3526274fd", func := "loop.example/lib-growingbuffers/laws.FnBuilderRunes", spec := "fnBuilderRunes", inPlace := ["internal/abi.NoEscape"], named := ["bytes.ErrTooLarge"], apart := false, laid := [("bytes.ErrTooLarge", laid_bytes_ErrTooLarge)], narrowed := true }
def FnBuilderRunesUptoSaid : Prop := fnBuilderRunesUptoRow.holds Tryd.pinned (OpenSpec.upto fnBuilderRunesSpec)

/-- 'laws.FnExactReadFrom', WHERE WHAT IT READS IS OF BULK AT MOST 1048576: true; the input reads as it did. -/
def fnExactReadFromUptoRow : OpenClaim := { program := "ytnpaokglfkocnaadoor", sum := "b89b7fd79db0ae242d0de9064ce0f4907b9ea778f84d118149b720c3526274fd", func := "loop.example/lib-growingbuffers/laws.FnExactReadFrom", spec := "fnExactReadFrom", unfollowed := true, recurses := true, named := ["bytes.errNegativeRead", "io.EOF", "bytes.ErrTooLarge"], apart := false, laid := [("io.EOF", laid_io_EOF), ("bytes.ErrTooLarge", laid_bytes_ErrTooLarge), ("bytes.errNegativeRead", laid_bytes_errNegativeRead)], narrowed := true }
def FnExactReadFromUptoSaid : Prop := fnExactReadFromUptoRow.holds Tryd.pinned (OpenSpec.upto fnExactReadFromSpec)

/-- 'laws.FnReadFromRoad', WHERE WHAT IT READS IS OF BULK AT MOST 1048576: true; the input reads as it did. -/
def fnReadFromRoadUptoRow : OpenClaim := { program := "ytnpaokglfkocnaadoor", sum := "b89b7fd79db0ae242d0de9064ce0f4907b9ea778f84d118149b720c3526274fd", func := "loop.example/lib-growingbuffers/laws.FnReadFromRoad", spec := "fnReadFromRoad", unfollowed := true, recurses := true, named := ["bytes.errNegativeRead", "io.EOF", "bytes.ErrTooLarge"], apart := false, laid := [("io.EOF", laid_io_EOF), ("bytes.ErrTooLarge", laid_bytes_ErrTooLarge), ("bytes.errNegativeRead", laid_bytes_errNegativeRead)], narrowed := true }
def FnReadFromRoadUptoSaid : Prop := fnReadFromRoadUptoRow.holds Tryd.pinned (OpenSpec.upto fnReadFromRoadSpec)

/-- 'laws.FnExactReadRunes', WHERE WHAT IT READS IS OF BULK AT MOST 1048576: true; the input reads as it did. -/
def fnExactReadRunesUptoRow : OpenClaim := { program := "ytnpaokglfkocnaadoor", sum := "b89b7fd79db0ae242d0de9064ce0f4907b9ea778f84d118149b720c3526274fd", func := "loop.example/lib-growingbuffers/laws.FnExactReadRunes", spec := "fnExactReadRunes", named := ["io.EOF", "unicode/utf8.first", "unicode/utf8.acceptRanges"], apart := false, laid := [("unicode/utf8.acceptRanges", laid_unicode_utf8_acceptRanges), ("io.EOF", laid_io_EOF), ("unicode/utf8.first", laid_unicode_utf8_first)], narrowed := true }
def FnExactReadRunesUptoSaid : Prop := fnExactReadRunesUptoRow.holds Tryd.pinned (OpenSpec.upto fnExactReadRunesSpec)

/-- 'laws.FnReadRunesAll', WHERE WHAT IT READS IS OF BULK AT MOST 1048576: true; the input reads as it did. -/
def fnReadRunesAllUptoRow : OpenClaim := { program := "ytnpaokglfkocnaadoor", sum := "b89b7fd79db0ae242d0de9064ce0f4907b9ea778f84d118149b720c3526274fd", func := "loop.example/lib-growingbuffers/laws.FnReadRunesAll", spec := "fnReadRunesAll", named := ["io.EOF", "unicode/utf8.first", "unicode/utf8.acceptRanges", "bytes.ErrTooLarge"], apart := false, laid := [("unicode/utf8.acceptRanges", laid_unicode_utf8_acceptRanges), ("io.EOF", laid_io_EOF), ("bytes.ErrTooLarge", laid_bytes_ErrTooLarge), ("unicode/utf8.first", laid_unicode_utf8_first)], narrowed := true }
def FnReadRunesAllUptoSaid : Prop := fnReadRunesAllUptoRow.holds Tryd.pinned (OpenSpec.upto fnReadRunesAllSpec)

/-- 'laws.FnRunes', WHERE WHAT IT READS IS OF BULK AT MOST 1048576: true; the input reads as it did. -/
def fnRunesUptoRow : OpenClaim := { program := "ytnpaokglfkocnaadoor", sum := "b89b7fd79db0ae242d0de9064ce0f4907b9ea778f84d118149b720c3526274fd", func := "loop.example/lib-growingbuffers/laws.FnRunes", spec := "fnRunes", named := ["bytes.ErrTooLarge", "io.EOF", "unicode/utf8.first", "unicode/utf8.acceptRanges"], apart := false, laid := [("unicode/utf8.acceptRanges", laid_unicode_utf8_acceptRanges), ("io.EOF", laid_io_EOF), ("bytes.ErrTooLarge", laid_bytes_ErrTooLarge), ("unicode/utf8.first", laid_unicode_utf8_first)], narrowed := true }
def FnRunesUptoSaid : Prop := fnRunesUptoRow.holds Tryd.pinned (OpenSpec.upto fnRunesSpec)

/-- 'laws.FnExactRunBuilder', WHERE WHAT IT READS IS OF BULK AT MOST 1048576: true; the input reads as it did. -/
def fnExactRunBuilderUptoRow : OpenClaim := { program := "ytnpaokglfkocnaadoor", sum := "b89b7fd79db0ae242d0de9064ce0f4907b9ea778f84d118149b720c3526274fd", func := "loop.example/lib-growingbuffers/laws.FnExactRunBuilder", spec := "fnExactRunBuilder", inPlace := ["internal/abi.NoEscape", "internal/bytealg.MakeNoZero"], unfollowed := true, recurses := true, named := ["io.EOF"], apart := false, laid := [("io.EOF", laid_io_EOF)], narrowed := true }
def FnExactRunBuilderUptoSaid : Prop := fnExactRunBuilderUptoRow.holds Tryd.pinned (OpenSpec.upto fnExactRunBuilderSpec)

/-- 'laws.FnScriptBuilder', WHERE WHAT IT READS IS OF BULK AT MOST 1048576: true; the input reads as it did. -/
def fnScriptBuilderUptoRow : OpenClaim := { program := "ytnpaokglfkocnaadoor", sum := "b89b7fd79db0ae242d0de9064ce0f4907b9ea778f84d118149b720c3526274fd", func := "loop.example/lib-growingbuffers/laws.FnScriptBuilder", spec := "fnScriptBuilder", inPlace := ["internal/abi.NoEscape", "internal/bytealg.MakeNoZero", "internal/bytealg.IndexByte"], unfollowed := true, recurses := true, named := ["io.EOF", "bytes.ErrTooLarge", "unicode/utf8.first", "unicode/utf8.acceptRanges", "bytes.errUnreadByte"], apart := false, laid := [("unicode/utf8.acceptRanges", laid_unicode_utf8_acceptRanges), ("io.EOF", laid_io_EOF), ("bytes.ErrTooLarge", laid_bytes_ErrTooLarge), ("bytes.errUnreadByte", laid_bytes_errUnreadByte), ("unicode/utf8.first", laid_unicode_utf8_first)], narrowed := true }
def FnScriptBuilderUptoSaid : Prop := fnScriptBuilderUptoRow.holds Tryd.pinned (OpenSpec.upto fnScriptBuilderSpec)

/-- 'laws.FnExactRunBuffer', WHERE WHAT IT READS IS OF BULK AT MOST 1048576: true; the input reads as it did. -/
def fnExactRunBufferUptoRow : OpenClaim := { program := "ytnpaokglfkocnaadoor", sum := "b89b7fd79db0ae242d0de9064ce0f4907b9ea778f84d118149b720c3526274fd", func := "loop.example/lib-growingbuffers/laws.FnExactRunBuffer", spec := "fnExactRunBuffer", inPlace := ["internal/bytealg.IndexByte"], unfollowed := true, recurses := true, named := ["bytes.ErrTooLarge", "io.EOF", "unicode/utf8.first", "unicode/utf8.acceptRanges", "bytes.errUnreadByte"], apart := false, laid := [("unicode/utf8.acceptRanges", laid_unicode_utf8_acceptRanges), ("io.EOF", laid_io_EOF), ("bytes.ErrTooLarge", laid_bytes_ErrTooLarge), ("bytes.errUnreadByte", laid_bytes_errUnreadByte), ("unicode/utf8.first", laid_unicode_utf8_first)], narrowed := true }
def FnExactRunBufferUptoSaid : Prop := fnExactRunBufferUptoRow.holds Tryd.pinned (OpenSpec.upto fnExactRunBufferSpec)

/-- 'laws.FnUnreadByte', WHERE WHAT IT READS IS OF BULK AT MOST 1048576: true; the input reads as it did. -/
def fnUnreadByteUptoRow : OpenClaim := { program := "ytnpaokglfkocnaadoor", sum := "b89b7fd79db0ae242d0de9064ce0f4907b9ea778f84d118149b720c3526274fd", func := "loop.example/lib-growingbuffers/laws.FnUnreadByte", spec := "fnUnreadByte", inPlace := ["internal/bytealg.IndexByte"], unfollowed := true, recurses := true, named := ["bytes.ErrTooLarge", "io.EOF", "unicode/utf8.first", "unicode/utf8.acceptRanges", "bytes.errUnreadByte"], apart := false, laid := [("unicode/utf8.acceptRanges", laid_unicode_utf8_acceptRanges), ("io.EOF", laid_io_EOF), ("bytes.ErrTooLarge", laid_bytes_ErrTooLarge), ("bytes.errUnreadByte", laid_bytes_errUnreadByte), ("unicode/utf8.first", laid_unicode_utf8_first)], narrowed := true }
def FnUnreadByteUptoSaid : Prop := fnUnreadByteUptoRow.holds Tryd.pinned (OpenSpec.upto fnUnreadByteSpec)

/-- 'laws.FnUnreadRune', WHERE WHAT IT READS IS OF BULK AT MOST 1048576: true; the input reads as it did. -/
def fnUnreadRuneUptoRow : OpenClaim := { program := "ytnpaokglfkocnaadoor", sum := "b89b7fd79db0ae242d0de9064ce0f4907b9ea778f84d118149b720c3526274fd", func := "loop.example/lib-growingbuffers/laws.FnUnreadRune", spec := "fnUnreadRune", inPlace := ["internal/bytealg.IndexByte"], unfollowed := true, recurses := true, named := ["bytes.ErrTooLarge", "io.EOF", "unicode/utf8.first", "unicode/utf8.acceptRanges", "bytes.errUnreadByte"], apart := false, laid := [("unicode/utf8.acceptRanges", laid_unicode_utf8_acceptRanges), ("io.EOF", laid_io_EOF), ("bytes.ErrTooLarge", laid_bytes_ErrTooLarge), ("bytes.errUnreadByte", laid_bytes_errUnreadByte), ("unicode/utf8.first", laid_unicode_utf8_first)], narrowed := true }
def FnUnreadRuneUptoSaid : Prop := fnUnreadRuneUptoRow.holds Tryd.pinned (OpenSpec.upto fnUnreadRuneSpec)

/-- 'laws.FnUnreadTwice', WHERE WHAT IT READS IS OF BULK AT MOST 1048576: true; the input reads as it did. -/
def fnUnreadTwiceUptoRow : OpenClaim := { program := "ytnpaokglfkocnaadoor", sum := "b89b7fd79db0ae242d0de9064ce0f4907b9ea778f84d118149b720c3526274fd", func := "loop.example/lib-growingbuffers/laws.FnUnreadTwice", spec := "fnUnreadTwice", inPlace := ["internal/bytealg.IndexByte"], unfollowed := true, recurses := true, named := ["bytes.ErrTooLarge", "io.EOF", "unicode/utf8.first", "unicode/utf8.acceptRanges", "bytes.errUnreadByte"], apart := false, laid := [("unicode/utf8.acceptRanges", laid_unicode_utf8_acceptRanges), ("io.EOF", laid_io_EOF), ("bytes.ErrTooLarge", laid_bytes_ErrTooLarge), ("bytes.errUnreadByte", laid_bytes_errUnreadByte), ("unicode/utf8.first", laid_unicode_utf8_first)], narrowed := true }
def FnUnreadTwiceUptoSaid : Prop := fnUnreadTwiceUptoRow.holds Tryd.pinned (OpenSpec.upto fnUnreadTwiceSpec)

end Rows
end Go.Proofs.YtnpaokglfkocnaaDoor
