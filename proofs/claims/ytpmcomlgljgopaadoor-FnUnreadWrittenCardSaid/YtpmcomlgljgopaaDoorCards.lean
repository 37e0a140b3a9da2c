/-
  DERIVED. GIVEN WITH THE SEED: THE CARDS: each row of YtpmcomlgljgopaaDoorRows.lean that lists a variable, with what it lists TIED to the program's text (the seventh form; the later family's looks); each row that meets fmt, with fmt's text TOLD by the authors' own Lean function (tested against real Go, not proved from fmt's source: count such statements apart). THE CARD IS WHAT COUNTS. Prove the row's statement (the work); the ties are given (YtpmcomlgljgopaaDoorTie.lean); close each card by the builder's one call (the guide's Derived/Test/ToyasCard.lean, 'card_holds'). Laid BY PROGRAM, IN A SANDBOX (cutbox-door.mjs). By AI agents, Wed Nov 11 2026. No macro, syntax, notation, axiom, sorry.
-/
import Derived.Test.YtpmcomlgljgopaaDoorRows
import GoSem.ClaimSeven
namespace Go.Proofs.YtpmcomlgljgopaaDoor
namespace Rows

/-- THE TIED CARD OF 'laws.FnUnreadWritten'. -/
def fnUnreadWrittenCard : Claim7 := { stood := { row := fnUnreadWrittenRow, standIns := [], harness := (true, "ad26f3b36f1a4cf730b987d4e0e2b7b55136ef394ec802824b217a2b6f292334"), looks := true }, kinds := [], alts := [], laidByText := true, laidKinds := [.data, .sentinel, .sentinel, .sentinel, .pinned], laidTests := true, laidLooks := .later }
def FnUnreadWrittenCardSaid : Prop := Claim7.holds Tryd.pinned (.plain (OpenSpec.ofChange fnUnreadWrittenSpec)) fnUnreadWrittenCard

/-- THE TIED CARD OF 'laws.FnPeekBehind'. -/
def fnPeekBehindCard : Claim7 := { stood := { row := fnPeekBehindRow, standIns := [], harness := (true, "ad26f3b36f1a4cf730b987d4e0e2b7b55136ef394ec802824b217a2b6f292334"), looks := true }, kinds := [], alts := [], laidByText := true, laidKinds := [.data, .sentinel, .sentinel, .sentinel, .pinned], laidTests := true, laidLooks := .later }
def FnPeekBehindCardSaid : Prop := Claim7.holds Tryd.pinned (.plain (OpenSpec.ofChange fnPeekBehindSpec)) fnPeekBehindCard

/-- THE TIED CARD OF 'laws.FnScriptSplit'. -/
def fnScriptSplitCard : Claim7 := { stood := { row := fnScriptSplitRow, standIns := [], harness := (true, "ad26f3b36f1a4cf730b987d4e0e2b7b55136ef394ec802824b217a2b6f292334"), looks := true }, kinds := [], alts := [], laidByText := true, laidKinds := [.data, .sentinel, .sentinel, .sentinel, .pinned], laidTests := true, laidLooks := .later }
def FnScriptSplitCardSaid : Prop := Claim7.holds Tryd.pinned (.plain (OpenSpec.ofChange fnScriptSplitSpec)) fnScriptSplitCard

/-- THE SECOND FORM's CARD OF 'laws.FnUnreadWritten'. -/
def fnUnreadWrittenUptoCard : Claim7 := { stood := { row := fnUnreadWrittenUptoRow, standIns := [], harness := (true, "ad26f3b36f1a4cf730b987d4e0e2b7b55136ef394ec802824b217a2b6f292334"), looks := true }, kinds := [], alts := [], laidByText := true, laidKinds := [.data, .sentinel, .sentinel, .sentinel, .pinned], laidTests := true, laidLooks := .later }
def FnUnreadWrittenUptoCardSaid : Prop := Claim7.holds Tryd.pinned (.plain (OpenSpec.upto fnUnreadWrittenSpec)) fnUnreadWrittenUptoCard

/-- THE SECOND FORM's CARD OF 'laws.FnPeekBehind'. -/
def fnPeekBehindUptoCard : Claim7 := { stood := { row := fnPeekBehindUptoRow, standIns := [], harness := (true, "ad26f3b36f1a4cf730b987d4e0e2b7b55136ef394ec802824b217a2b6f292334"), looks := true }, kinds := [], alts := [], laidByText := true, laidKinds := [.data, .sentinel, .sentinel, .sentinel, .pinned], laidTests := true, laidLooks := .later }
def FnPeekBehindUptoCardSaid : Prop := Claim7.holds Tryd.pinned (.plain (OpenSpec.upto fnPeekBehindSpec)) fnPeekBehindUptoCard

/-- THE SECOND FORM's CARD OF 'laws.FnScriptSplit'. -/
def fnScriptSplitUptoCard : Claim7 := { stood := { row := fnScriptSplitUptoRow, standIns := [], harness := (true, "ad26f3b36f1a4cf730b987d4e0e2b7b55136ef394ec802824b217a2b6f292334"), looks := true }, kinds := [], alts := [], laidByText := true, laidKinds := [.data, .sentinel, .sentinel, .sentinel, .pinned], laidTests := true, laidLooks := .later }
def FnScriptSplitUptoCardSaid : Prop := Claim7.holds Tryd.pinned (.plain (OpenSpec.upto fnScriptSplitSpec)) fnScriptSplitUptoCard
end Rows
end Go.Proofs.YtpmcomlgljgopaaDoor
