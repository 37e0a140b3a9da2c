/-
  No cell of these rows narrows 'for every input' (looked for: loops, veiled, ifaces, maps, wideKeys, modest, calm, conditions, laid).
  DERIVED. THE GIVEN ROWS OF THIS SEAT. 7 by the template 'for every input the law returns true; each argument reads behind the call as it read before'; 0 by the template 'total and deterministic' (their statements: YtpfhpoggollblaaTotals.lean).
  GIVEN WITH THE SEED: the statements are not yours to turn. If you find one false, say at which input.
  Laid BY PROGRAM, IN A SANDBOX (cutbox-rows.mjs): the forced cells as the released guide's own fill.sh prints them over the translation 19043273bd9d7813… (all of the seat's roots in one cut). By AI agents, Wed Nov 11 2026. No macro, syntax, notation, axiom, sorry.
-/
import Derived.Test.YtpfhpoggollblaaChecked
import GoSem.Claim
import GoSem.ClaimJoined
import GoSem.ClaimMapViews
import Derived.JoinedTies
import Derived.KernelRfl
namespace Go.Proofs.Ytpfhpoggollblaa
/- THE CELL 'sum', in the pinned program and in every row, IS THE sha256 OF THE DUMP (.gsa) THAT YtpfhpoggollblaaProg.lean LOADS. Nothing in Lean hashes anything: it is a label: what it is worth is what the hold of that sum in a sandbox is worth. -/
noncomputable def Try.pinned : Pinned := { name := "ytpfhpoggollblaa", sum := "19043273bd9d7813caca7bc737b1af4d548a521c86071022297727d284071d46", checked := Try.checked }
namespace Rows
def none {H : Type} : Left H := { results := [], args := [] }

/-- 'laws.FnExactNilString': WHATEVER THE INPUT: true; the input reads as it did. -/
def fnExactNilStringSpec : ChangeSpec := { name := "fnExactNilString", fn := fun _ => fun
  | [d] => { results := [.lit (.bool true)], args := [d] }
  | _ => none }
def fnExactNilStringRow : OpenClaim := { program := "ytpfhpoggollblaa", sum := "19043273bd9d7813caca7bc737b1af4d548a521c86071022297727d284071d46", func := "loop.example/lib-growingbuffers/laws.FnExactNilString", spec := "fnExactNilString", apart := false }
def FnExactNilStringSaid : Prop := fnExactNilStringRow.holds Try.pinned (OpenSpec.ofChange fnExactNilStringSpec)

/-- ITS FALSE NEIGHBOUR: 'it returns false'. Refute it at one input. -/
def fnExactNilStringWrong : ChangeSpec := { name := "fnExactNilString", fn := fun _ => fun
  | [d] => { results := [.lit (.bool false)], args := [d] }
  | _ => none }
def FnExactNilStringWrongFalsely : Prop := fnExactNilStringRow.holds Try.pinned (OpenSpec.ofChange fnExactNilStringWrong)

/-- 'laws.FnExactSpaceOfSlice': WHATEVER THE INPUT: true; the input reads as it did. -/
def fnExactSpaceOfSliceSpec : ChangeSpec := { name := "fnExactSpaceOfSlice", fn := fun _ => fun
  | [d] => { results := [.lit (.bool true)], args := [d] }
  | _ => none }
def fnExactSpaceOfSliceRow : OpenClaim := { program := "ytpfhpoggollblaa", sum := "19043273bd9d7813caca7bc737b1af4d548a521c86071022297727d284071d46", func := "loop.example/lib-growingbuffers/laws.FnExactSpaceOfSlice", spec := "fnExactSpaceOfSlice", apart := false }
def FnExactSpaceOfSliceSaid : Prop := fnExactSpaceOfSliceRow.holds Try.pinned (OpenSpec.ofChange fnExactSpaceOfSliceSpec)

/-- ITS FALSE NEIGHBOUR: 'it returns false'. Refute it at one input. -/
def fnExactSpaceOfSliceWrong : ChangeSpec := { name := "fnExactSpaceOfSlice", fn := fun _ => fun
  | [d] => { results := [.lit (.bool false)], args := [d] }
  | _ => none }
def FnExactSpaceOfSliceWrongFalsely : Prop := fnExactSpaceOfSliceRow.holds Try.pinned (OpenSpec.ofChange fnExactSpaceOfSliceWrong)

/-- 'laws.FnExactChangeBytes': WHATEVER THE INPUT: true; the input reads as it did. -/
def fnExactChangeBytesSpec : ChangeSpec := { name := "fnExactChangeBytes", fn := fun _ => fun
  | [d1, d2, d3] => { results := [.lit (.bool true)], args := [d1, d2, d3] }
  | _ => none }
def fnExactChangeBytesRow : OpenClaim := { program := "ytpfhpoggollblaa", sum := "19043273bd9d7813caca7bc737b1af4d548a521c86071022297727d284071d46", func := "loop.example/lib-growingbuffers/laws.FnExactChangeBytes", spec := "fnExactChangeBytes", apart := false }
def FnExactChangeBytesSaid : Prop := fnExactChangeBytesRow.holds Try.pinned (OpenSpec.ofChange fnExactChangeBytesSpec)

/-- ITS FALSE NEIGHBOUR: 'it returns false'. Refute it at one input. -/
def fnExactChangeBytesWrong : ChangeSpec := { name := "fnExactChangeBytes", fn := fun _ => fun
  | [d1, d2, d3] => { results := [.lit (.bool false)], args := [d1, d2, d3] }
  | _ => none }
def FnExactChangeBytesWrongFalsely : Prop := fnExactChangeBytesRow.holds Try.pinned (OpenSpec.ofChange fnExactChangeBytesWrong)

/-- 'laws.FnExactLenAfter': WHATEVER THE INPUT: true; the input reads as it did. -/
def fnExactLenAfterSpec : ChangeSpec := { name := "fnExactLenAfter", fn := fun _ => fun
  | [d1, d2] => { results := [.lit (.bool true)], args := [d1, d2] }
  | _ => none }
def fnExactLenAfterRow : OpenClaim := { program := "ytpfhpoggollblaa", sum := "19043273bd9d7813caca7bc737b1af4d548a521c86071022297727d284071d46", func := "loop.example/lib-growingbuffers/laws.FnExactLenAfter", spec := "fnExactLenAfter", apart := false }
def FnExactLenAfterSaid : Prop := fnExactLenAfterRow.holds Try.pinned (OpenSpec.ofChange fnExactLenAfterSpec)

/-- ITS FALSE NEIGHBOUR: 'it returns false'. Refute it at one input. -/
def fnExactLenAfterWrong : ChangeSpec := { name := "fnExactLenAfter", fn := fun _ => fun
  | [d1, d2] => { results := [.lit (.bool false)], args := [d1, d2] }
  | _ => none }
def FnExactLenAfterWrongFalsely : Prop := fnExactLenAfterRow.holds Try.pinned (OpenSpec.ofChange fnExactLenAfterWrong)

/-- 'laws.FnExactBytesAfter': WHATEVER THE INPUT: true; the input reads as it did. -/
def fnExactBytesAfterSpec : ChangeSpec := { name := "fnExactBytesAfter", fn := fun _ => fun
  | [d1, d2] => { results := [.lit (.bool true)], args := [d1, d2] }
  | _ => none }
def fnExactBytesAfterRow : OpenClaim := { program := "ytpfhpoggollblaa", sum := "19043273bd9d7813caca7bc737b1af4d548a521c86071022297727d284071d46", func := "loop.example/lib-growingbuffers/laws.FnExactBytesAfter", spec := "fnExactBytesAfter", apart := false }
def FnExactBytesAfterSaid : Prop := fnExactBytesAfterRow.holds Try.pinned (OpenSpec.ofChange fnExactBytesAfterSpec)

/-- ITS FALSE NEIGHBOUR: 'it returns false'. Refute it at one input. -/
def fnExactBytesAfterWrong : ChangeSpec := { name := "fnExactBytesAfter", fn := fun _ => fun
  | [d1, d2] => { results := [.lit (.bool false)], args := [d1, d2] }
  | _ => none }
def FnExactBytesAfterWrongFalsely : Prop := fnExactBytesAfterRow.holds Try.pinned (OpenSpec.ofChange fnExactBytesAfterWrong)

/-- 'laws.FnExactSpaceOf': WHATEVER THE INPUT: true; the input reads as it did. -/
def fnExactSpaceOfSpec : ChangeSpec := { name := "fnExactSpaceOf", fn := fun _ => fun
  | [d1, d2] => { results := [.lit (.bool true)], args := [d1, d2] }
  | _ => none }
def fnExactSpaceOfRow : OpenClaim := { program := "ytpfhpoggollblaa", sum := "19043273bd9d7813caca7bc737b1af4d548a521c86071022297727d284071d46", func := "loop.example/lib-growingbuffers/laws.FnExactSpaceOf", spec := "fnExactSpaceOf", apart := false }
def FnExactSpaceOfSaid : Prop := fnExactSpaceOfRow.holds Try.pinned (OpenSpec.ofChange fnExactSpaceOfSpec)

/-- ITS FALSE NEIGHBOUR: 'it returns false'. Refute it at one input. -/
def fnExactSpaceOfWrong : ChangeSpec := { name := "fnExactSpaceOf", fn := fun _ => fun
  | [d1, d2] => { results := [.lit (.bool false)], args := [d1, d2] }
  | _ => none }
def FnExactSpaceOfWrongFalsely : Prop := fnExactSpaceOfRow.holds Try.pinned (OpenSpec.ofChange fnExactSpaceOfWrong)

/-- 'laws.FnExactNextChunks': WHATEVER THE INPUT: true; the input reads as it did. -/
def fnExactNextChunksSpec : ChangeSpec := { name := "fnExactNextChunks", fn := fun _ => fun
  | [d1, d2] => { results := [.lit (.bool true)], args := [d1, d2] }
  | _ => none }
def fnExactNextChunksRow : OpenClaim := { program := "ytpfhpoggollblaa", sum := "19043273bd9d7813caca7bc737b1af4d548a521c86071022297727d284071d46", func := "loop.example/lib-growingbuffers/laws.FnExactNextChunks", spec := "fnExactNextChunks", apart := false }
def FnExactNextChunksSaid : Prop := fnExactNextChunksRow.holds Try.pinned (OpenSpec.ofChange fnExactNextChunksSpec)

/-- ITS FALSE NEIGHBOUR: 'it returns false'. Refute it at one input. -/
def fnExactNextChunksWrong : ChangeSpec := { name := "fnExactNextChunks", fn := fun _ => fun
  | [d1, d2] => { results := [.lit (.bool false)], args := [d1, d2] }
  | _ => none }
def FnExactNextChunksWrongFalsely : Prop := fnExactNextChunksRow.holds Try.pinned (OpenSpec.ofChange fnExactNextChunksWrong)

/- THE SECOND FORM. 'bulk': how many values and letters a reading holds, each counted each time it is reached (what is shared counts as often as it is met; a slice's spare places count too). A statement '..UptoSaid' is the law's where the arguments, and the package variables that the reading takes, are together of bulk at most 1048576: NARROWER than '..Said'. Prove '..Said' where nothing that the law and all that it calls make is longer than what came in: it says more and counts as full. Else prove '..UptoSaid'. A law counts once. -/
mutual
def uptoBulk {H : Type} : DataW H → Nat
  | .lit (.string bytes) => bytes.length + 1
  | .lit _ => 1
  | .nil => 1
  | .ptr d => uptoBulk d + 1
  | .slice elems spare => uptoBulkAll elems + uptoBulkAll spare + 1
  | .agg parts => uptoBulkAll parts + 1
  | .iface _ d => uptoBulk d + 1
  | .map entries => uptoBulkEntries entries + 1
  | .held _ => 1
def uptoBulkAll {H : Type} : List (DataW H) → Nat
  | [] => 0
  | d :: r => uptoBulk d + uptoBulkAll r
def uptoBulkEntries {H : Type} : List (Lit × DataW H) → Nat
  | [] => 0
  | x :: r => uptoBulkEntry x + uptoBulkEntries r
def uptoBulkEntry {H : Type} : Lit × DataW H → Nat
  | (.string bytes, d) => bytes.length + uptoBulk d + 1
  | (_, d) => uptoBulk d + 1
 end
def uptoSmall : (H : Type) → List (DataW H) → Bool := fun _ ds => decide (uptoBulkAll ds ≤ 1048576)
def OpenSpec.upto (s : _root_.Go.ChangeSpec) : _root_.Go.OpenSpec := { _root_.Go.OpenSpec.ofChange s with cond := some uptoSmall }

/-- 'laws.FnExactNilString', WHERE WHAT IT READS IS OF BULK AT MOST 1048576: true; the input reads as it did. -/
def fnExactNilStringUptoRow : OpenClaim := { program := "ytpfhpoggollblaa", sum := "19043273bd9d7813caca7bc737b1af4d548a521c86071022297727d284071d46", func := "loop.example/lib-growingbuffers/laws.FnExactNilString", spec := "fnExactNilString", apart := false, narrowed := true }
def FnExactNilStringUptoSaid : Prop := fnExactNilStringUptoRow.holds Try.pinned (OpenSpec.upto fnExactNilStringSpec)

/-- 'laws.FnExactSpaceOfSlice', WHERE WHAT IT READS IS OF BULK AT MOST 1048576: true; the input reads as it did. -/
def fnExactSpaceOfSliceUptoRow : OpenClaim := { program := "ytpfhpoggollblaa", sum := "19043273bd9d7813caca7bc737b1af4d548a521c86071022297727d284071d46", func := "loop.example/lib-growingbuffers/laws.FnExactSpaceOfSlice", spec := "fnExactSpaceOfSlice", apart := false, narrowed := true }
def FnExactSpaceOfSliceUptoSaid : Prop := fnExactSpaceOfSliceUptoRow.holds Try.pinned (OpenSpec.upto fnExactSpaceOfSliceSpec)

/-- 'laws.FnExactChangeBytes', WHERE WHAT IT READS IS OF BULK AT MOST 1048576: true; the input reads as it did. -/
def fnExactChangeBytesUptoRow : OpenClaim := { program := "ytpfhpoggollblaa", sum := "19043273bd9d7813caca7bc737b1af4d548a521c86071022297727d284071d46", func := "loop.example/lib-growingbuffers/laws.FnExactChangeBytes", spec := "fnExactChangeBytes", apart := false, narrowed := true }
def FnExactChangeBytesUptoSaid : Prop := fnExactChangeBytesUptoRow.holds Try.pinned (OpenSpec.upto fnExactChangeBytesSpec)

/-- 'laws.FnExactLenAfter', WHERE WHAT IT READS IS OF BULK AT MOST 1048576: true; the input reads as it did. -/
def fnExactLenAfterUptoRow : OpenClaim := { program := "ytpfhpoggollblaa", sum := "19043273bd9d7813caca7bc737b1af4d548a521c86071022297727d284071d46", func := "loop.example/lib-growingbuffers/laws.FnExactLenAfter", spec := "fnExactLenAfter", apart := false, narrowed := true }
def FnExactLenAfterUptoSaid : Prop := fnExactLenAfterUptoRow.holds Try.pinned (OpenSpec.upto fnExactLenAfterSpec)

/-- 'laws.FnExactBytesAfter', WHERE WHAT IT READS IS OF BULK AT MOST 1048576: true; the input reads as it did. -/
def fnExactBytesAfterUptoRow : OpenClaim := { program := "ytpfhpoggollblaa", sum := "19043273bd9d7813caca7bc737b1af4d548a521c86071022297727d284071d46", func := "loop.example/lib-growingbuffers/laws.FnExactBytesAfter", spec := "fnExactBytesAfter", apart := false, narrowed := true }
def FnExactBytesAfterUptoSaid : Prop := fnExactBytesAfterUptoRow.holds Try.pinned (OpenSpec.upto fnExactBytesAfterSpec)

/-- 'laws.FnExactSpaceOf', WHERE WHAT IT READS IS OF BULK AT MOST 1048576: true; the input reads as it did. -/
def fnExactSpaceOfUptoRow : OpenClaim := { program := "ytpfhpoggollblaa", sum := "19043273bd9d7813caca7bc737b1af4d548a521c86071022297727d284071d46", func := "loop.example/lib-growingbuffers/laws.FnExactSpaceOf", spec := "fnExactSpaceOf", apart := false, narrowed := true }
def FnExactSpaceOfUptoSaid : Prop := fnExactSpaceOfUptoRow.holds Try.pinned (OpenSpec.upto fnExactSpaceOfSpec)

/-- 'laws.FnExactNextChunks', WHERE WHAT IT READS IS OF BULK AT MOST 1048576: true; the input reads as it did. -/
def fnExactNextChunksUptoRow : OpenClaim := { program := "ytpfhpoggollblaa", sum := "19043273bd9d7813caca7bc737b1af4d548a521c86071022297727d284071d46", func := "loop.example/lib-growingbuffers/laws.FnExactNextChunks", spec := "fnExactNextChunks", apart := false, narrowed := true }
def FnExactNextChunksUptoSaid : Prop := fnExactNextChunksUptoRow.holds Try.pinned (OpenSpec.upto fnExactNextChunksSpec)

end Rows
end Go.Proofs.Ytpfhpoggollblaa
