/-
  NARROWER THAN 'FOR EVERY INPUT', by the rows' own cells (each row's printed sentence says how): FnBuilderRoads: laid · FnGrowKeeps: laid · FnBuilderRunes: laid · FnGrowWrite: laid.
  DERIVED. THE GIVEN ROWS OF THIS SEAT. 4 by the template 'for every input the law returns true; each argument reads behind the call as it read before'; 0 by the template 'total and deterministic' (their statements: YtgniidnbpkhmcaaDoorTotals.lean).
  GIVEN WITH THE SEED: the statements are not yours to turn. If you find one false, say at which input.
  Laid BY PROGRAM, IN A SANDBOX (cutbox-rows.mjs): the forced cells as the released guide's own fill.sh prints them over the translation 590e53ff9ec83a1f… (all of the seat's roots in one cut). By AI agents, Wed Nov 11 2026. No macro, syntax, notation, axiom, sorry.
-/
import Derived.Test.YtgniidnbpkhmcaaDoorChecked
import GoSem.Claim
import GoSem.ClaimJoined
import GoSem.ClaimMapViews
import Derived.JoinedTies
import Derived.KernelRfl
namespace Go.Proofs.YtgniidnbpkhmcaaDoor
/- THE CELL 'sum', in the pinned program and in every row, IS THE sha256 OF THE DUMP (.gsa) THAT YtgniidnbpkhmcaaDoorProg.lean LOADS. Nothing in Lean hashes anything: it is a label: what it is worth is what the hold of that sum in a sandbox is worth. -/
noncomputable def Tryd.pinned : Pinned := { name := "ytgniidnbpkhmcaadoor", sum := "590e53ff9ec83a1f6ae29af8b310fe145a5c1a7e670a24cf593eef44a3f7059b", checked := Tryd.checked }
namespace Rows
def none {H : Type} : Left H := { results := [], args := [] }

/- WHAT THE LISTED PACKAGE-LEVEL VARIABLES READ AS WHEN THE CALL BEGINS. Each datum BY PROGRAM (the guide's laid-datum.mjs) off the statement by which the dump's own 'gosem.cut.vars' lays the variable. In a bare row this is a premise. The card (YtgniidnbpkhmcaaDoorCards.lean) ties it to the program's text. -/
def laid_bytes_ErrTooLarge {H : Type} : DataW H := .iface "*errors.errorString" (.ptr (.agg [.lit (.string [98, 121, 116, 101, 115, 46, 66, 117, 102, 102, 101, 114, 58, 32, 116, 111, 111, 32, 108, 97, 114, 103, 101])]))

/-- 'laws.FnBuilderRoads': WHATEVER THE INPUT: true; the input reads as it did. -/
def fnBuilderRoadsSpec : ChangeSpec := { name := "fnBuilderRoads", fn := fun _ => fun
  | [d] => { results := [.lit (.bool true)], args := [d] }
  | _ => none }
def fnBuilderRoadsRow : OpenClaim := { program := "ytgniidnbpkhmcaadoor", sum := "590e53ff9ec83a1f6ae29af8b310fe145a5c1a7e670a24cf593eef44a3f7059b", func := "loop.example/lib-growingbuffers/laws.FnBuilderRoads", spec := "fnBuilderRoads", inPlace := ["internal/abi.NoEscape"], named := ["bytes.ErrTooLarge"], apart := false, laid := [("bytes.ErrTooLarge", laid_bytes_ErrTooLarge)] }
def FnBuilderRoadsSaid : Prop := fnBuilderRoadsRow.holds Tryd.pinned (OpenSpec.ofChange fnBuilderRoadsSpec)

/-- ITS FALSE NEIGHBOUR: 'it returns false'. Refute it at one input. -/
def fnBuilderRoadsWrong : ChangeSpec := { name := "fnBuilderRoads", fn := fun _ => fun
  | [d] => { results := [.lit (.bool false)], args := [d] }
  | _ => none }
def FnBuilderRoadsWrongFalsely : Prop := fnBuilderRoadsRow.holds Tryd.pinned (OpenSpec.ofChange fnBuilderRoadsWrong)

/-- 'laws.FnGrowKeeps': WHATEVER THE INPUT: true; the input reads as it did. -/
def fnGrowKeepsSpec : ChangeSpec := { name := "fnGrowKeeps", fn := fun _ => fun
  | [d] => { results := [.lit (.bool true)], args := [d] }
  | _ => none }
def fnGrowKeepsRow : OpenClaim := { program := "ytgniidnbpkhmcaadoor", sum := "590e53ff9ec83a1f6ae29af8b310fe145a5c1a7e670a24cf593eef44a3f7059b", func := "loop.example/lib-growingbuffers/laws.FnGrowKeeps", spec := "fnGrowKeeps", inPlace := ["internal/abi.NoEscape", "internal/bytealg.MakeNoZero"], unfollowed := true, recurses := true, named := ["bytes.ErrTooLarge"], apart := false, laid := [("bytes.ErrTooLarge", laid_bytes_ErrTooLarge)] }
def FnGrowKeepsSaid : Prop := fnGrowKeepsRow.holds Tryd.pinned (OpenSpec.ofChange fnGrowKeepsSpec)

/-- ITS FALSE NEIGHBOUR: 'it returns false'. Refute it at one input. -/
def fnGrowKeepsWrong : ChangeSpec := { name := "fnGrowKeeps", fn := fun _ => fun
  | [d] => { results := [.lit (.bool false)], args := [d] }
  | _ => none }
def FnGrowKeepsWrongFalsely : Prop := fnGrowKeepsRow.holds Tryd.pinned (OpenSpec.ofChange fnGrowKeepsWrong)

/-- 'laws.FnBuilderRunes': WHATEVER THE INPUT: true; the input reads as it did. -/
def fnBuilderRunesSpec : ChangeSpec := { name := "fnBuilderRunes", fn := fun _ => fun
  | [d] => { results := [.lit (.bool true)], args := [d] }
  | _ => none }
def fnBuilderRunesRow : OpenClaim := { program := "ytgniidnbpkhmcaadoor", sum := "590e53ff9ec83a1f6ae29af8b310fe145a5c1a7e670a24cf593eef44a3f7059b", func := "loop.example/lib-growingbuffers/laws.FnBuilderRunes", spec := "fnBuilderRunes", inPlace := ["internal/abi.NoEscape"], named := ["bytes.ErrTooLarge"], apart := false, laid := [("bytes.ErrTooLarge", laid_bytes_ErrTooLarge)] }
def FnBuilderRunesSaid : Prop := fnBuilderRunesRow.holds Tryd.pinned (OpenSpec.ofChange fnBuilderRunesSpec)

/-- ITS FALSE NEIGHBOUR: 'it returns false'. Refute it at one input. -/
def fnBuilderRunesWrong : ChangeSpec := { name := "fnBuilderRunes", fn := fun _ => fun
  | [d] => { results := [.lit (.bool false)], args := [d] }
  | _ => none }
def FnBuilderRunesWrongFalsely : Prop := fnBuilderRunesRow.holds Tryd.pinned (OpenSpec.ofChange fnBuilderRunesWrong)

/-- 'laws.FnGrowWrite': WHATEVER THE INPUT: true; the input reads as it did. -/
def fnGrowWriteSpec : ChangeSpec := { name := "fnGrowWrite", fn := fun _ => fun
  | [d] => { results := [.lit (.bool true)], args := [d] }
  | _ => none }
def fnGrowWriteRow : OpenClaim := { program := "ytgniidnbpkhmcaadoor", sum := "590e53ff9ec83a1f6ae29af8b310fe145a5c1a7e670a24cf593eef44a3f7059b", func := "loop.example/lib-growingbuffers/laws.FnGrowWrite", spec := "fnGrowWrite", inPlace := ["internal/abi.NoEscape", "internal/bytealg.MakeNoZero"], named := ["bytes.ErrTooLarge"], apart := false, laid := [("bytes.ErrTooLarge", laid_bytes_ErrTooLarge)] }
def FnGrowWriteSaid : Prop := fnGrowWriteRow.holds Tryd.pinned (OpenSpec.ofChange fnGrowWriteSpec)

/-- ITS FALSE NEIGHBOUR: 'it returns false'. Refute it at one input. -/
def fnGrowWriteWrong : ChangeSpec := { name := "fnGrowWrite", fn := fun _ => fun
  | [d] => { results := [.lit (.bool false)], args := [d] }
  | _ => none }
def FnGrowWriteWrongFalsely : Prop := fnGrowWriteRow.holds Tryd.pinned (OpenSpec.ofChange fnGrowWriteWrong)

/- THE SECOND FORM. 'bulk': how many values and letters a reading holds, each counted each time it is reached (what is shared counts as often as it is met; a slice's spare places count too). A statement '..UptoSaid' is the law's where the arguments, and the package variables that the reading takes, are together of bulk at most 1048576: NARROWER than '..Said'. Prove '..Said' where nothing that the law and all that it calls make is longer than what came in: it says more and counts as full. Else prove '..UptoSaid'. A law counts once. -/
mutual
def uptoBulk {H : Type} : DataW H → Nat
  | .lit (.string bytes) => bytes.length + 1
  | .lit _ => 1
  | .nil => 1
  | .ptr d => uptoBulk d + 1
  | .slice elems spare => uptoBulkAll elems + uptoBulkAll spare + 1
  | .agg parts => uptoBulkAll parts + 1
  | .iface _ d => uptoBulk d + 1
  | .map entries => uptoBulkEntries entries + 1
  | .held _ => 1
def uptoBulkAll {H : Type} : List (DataW H) → Nat
  | [] => 0
  | d :: r => uptoBulk d + uptoBulkAll r
def uptoBulkEntries {H : Type} : List (Lit × DataW H) → Nat
  | [] => 0
  | x :: r => uptoBulkEntry x + uptoBulkEntries r
def uptoBulkEntry {H : Type} : Lit × DataW H → Nat
  | (.string bytes, d) => bytes.length + uptoBulk d + 1
  | (_, d) => uptoBulk d + 1
 end
def uptoSmall : (H : Type) → List (DataW H) → Bool := fun _ ds => decide (uptoBulkAll ds ≤ 1048576)
def OpenSpec.upto (s : _root_.Go.ChangeSpec) : _root_.Go.OpenSpec := { _root_.Go.OpenSpec.ofChange s with cond := some uptoSmall }

/-- 'laws.FnBuilderRoads', WHERE WHAT IT READS IS OF BULK AT MOST 1048576: true; the input reads as it did. -/
def fnBuilderRoadsUptoRow : OpenClaim := { program := "ytgniidnbpkhmcaadoor", sum := "590e53ff9ec83a1f6ae29af8b310fe145a5c1a7e670a24cf593eef44a3f7059b", func := "loop.example/lib-growingbuffers/laws.FnBuilderRoads", spec := "fnBuilderRoads", inPlace := ["internal/abi.NoEscape"], named := ["bytes.ErrTooLarge"], apart := false, laid := [("bytes.ErrTooLarge", laid_bytes_ErrTooLarge)], narrowed := true }
def FnBuilderRoadsUptoSaid : Prop := fnBuilderRoadsUptoRow.holds Tryd.pinned (OpenSpec.upto fnBuilderRoadsSpec)

/-- 'laws.FnGrowKeeps', WHERE WHAT IT READS IS OF BULK AT MOST 1048576: true; the input reads as it did. -/
def fnGrowKeepsUptoRow : OpenClaim := { program := "ytgniidnbpkhmcaadoor", sum := "590e53ff9ec83a1f6ae29af8b310fe145a5c1a7e670a24cf593eef44a3f7059b", func := "loop.example/lib-growingbuffers/laws.FnGrowKeeps", spec := "fnGrowKeeps", inPlace := ["internal/abi.NoEscape", "internal/bytealg.MakeNoZero"], unfollowed := true, recurses := true, named := ["bytes.ErrTooLarge"], apart := false, laid := [("bytes.ErrTooLarge", laid_bytes_ErrTooLarge)], narrowed := true }
def FnGrowKeepsUptoSaid : Prop := fnGrowKeepsUptoRow.holds Tryd.pinned (OpenSpec.upto fnGrowKeepsSpec)

/-- 'laws.FnBuilderRunes', WHERE WHAT IT READS IS OF BULK AT MOST 1048576: true; the input reads as it did. -/
def fnBuilderRunesUptoRow : OpenClaim := { program := "ytgniidnbpkhmcaadoor", sum := "590e53ff9ec83a1f6ae29af8b310fe145a5c1a7e670a24cf593eef44a3f7059b", func := "loop.example/lib-growingbuffers/laws.FnBuilderRunes", spec := "fnBuilderRunes", inPlace := ["internal/abi.NoEscape"], named := ["bytes.ErrTooLarge"], apart := false, laid := [("bytes.ErrTooLarge", laid_bytes_ErrTooLarge)], narrowed := true }
def FnBuilderRunesUptoSaid : Prop := fnBuilderRunesUptoRow.holds Tryd.pinned (OpenSpec.upto fnBuilderRunesSpec)

/-- 'laws.FnGrowWrite', WHERE WHAT IT READS IS OF BULK AT MOST 1048576: true; the input reads as it did. -/
def fnGrowWriteUptoRow : OpenClaim := { program := "ytgniidnbpkhmcaadoor", sum := "590e53ff9ec83a1f6ae29af8b310fe145a5c1a7e670a24cf593eef44a3f7059b", func := "loop.example/lib-growingbuffers/laws.FnGrowWrite", spec := "fnGrowWrite", inPlace := ["internal/abi.NoEscape", "internal/bytealg.MakeNoZero"], named := ["bytes.ErrTooLarge"], apart := false, laid := [("bytes.ErrTooLarge", laid_bytes_ErrTooLarge)], narrowed := true }
def FnGrowWriteUptoSaid : Prop := fnGrowWriteUptoRow.holds Tryd.pinned (OpenSpec.upto fnGrowWriteSpec)

end Rows
end Go.Proofs.YtgniidnbpkhmcaaDoor
