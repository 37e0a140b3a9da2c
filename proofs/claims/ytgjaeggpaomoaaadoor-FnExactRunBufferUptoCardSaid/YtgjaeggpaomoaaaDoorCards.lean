/-
  DERIVED. GIVEN WITH THE SEED: THE CARDS: each row of YtgjaeggpaomoaaaDoorRows.lean that lists a variable, with what it lists TIED to the program's text (the seventh form; the later family's looks); each row that meets fmt, with fmt's text TOLD by the authors' own Lean function (tested against real Go, not proved from fmt's source: count such statements apart). THE CARD IS WHAT COUNTS. Prove the row's statement (the work); the ties are given (YtgjaeggpaomoaaaDoorTie.lean); close each card by the builder's one call (the guide's Derived/Test/ToyasCard.lean, 'card_holds'). Laid BY PROGRAM, IN A SANDBOX (cutbox-door.mjs). By AI agents, Wed Nov 11 2026. No macro, syntax, notation, axiom, sorry.
-/
import Derived.Test.YtgjaeggpaomoaaaDoorRows
import GoSem.ClaimSeven
namespace Go.Proofs.YtgjaeggpaomoaaaDoor
namespace Rows

/-- THE TIED CARD OF 'laws.FnScriptBuilder'. -/
def fnScriptBuilderCard : Claim7 := { stood := { row := fnScriptBuilderRow, standIns := [], harness := (true, "5f2d810e3ab91b6143a12f7d50e95feda75ee6440472725d8a308aa6ed554052"), looks := true }, kinds := [], alts := [], laidByText := true, laidKinds := [.data, .sentinel, .sentinel, .sentinel, .pinned], laidTests := true, laidLooks := .later }
def FnScriptBuilderCardSaid : Prop := Claim7.holds Tryd.pinned (.plain (OpenSpec.ofChange fnScriptBuilderSpec)) fnScriptBuilderCard

/-- THE TIED CARD OF 'laws.FnExactReadFrom'. -/
def fnExactReadFromCard : Claim7 := { stood := { row := fnExactReadFromRow, standIns := [], harness := (true, "5f2d810e3ab91b6143a12f7d50e95feda75ee6440472725d8a308aa6ed554052"), looks := true }, kinds := [], alts := [], laidByText := true, laidKinds := [.sentinel, .sentinel, .sentinel], laidTests := true, laidLooks := .later }
def FnExactReadFromCardSaid : Prop := Claim7.holds Tryd.pinned (.plain (OpenSpec.ofChange fnExactReadFromSpec)) fnExactReadFromCard

/-- THE TIED CARD OF 'laws.FnExactRunBuilder'. -/
def fnExactRunBuilderCard : Claim7 := { stood := { row := fnExactRunBuilderRow, standIns := [], harness := (true, "5f2d810e3ab91b6143a12f7d50e95feda75ee6440472725d8a308aa6ed554052"), looks := true }, kinds := [], alts := [], laidByText := true, laidKinds := [.sentinel], laidTests := true, laidLooks := .later }
def FnExactRunBuilderCardSaid : Prop := Claim7.holds Tryd.pinned (.plain (OpenSpec.ofChange fnExactRunBuilderSpec)) fnExactRunBuilderCard

/-- THE TIED CARD OF 'laws.FnReadFromRoad'. -/
def fnReadFromRoadCard : Claim7 := { stood := { row := fnReadFromRoadRow, standIns := [], harness := (true, "5f2d810e3ab91b6143a12f7d50e95feda75ee6440472725d8a308aa6ed554052"), looks := true }, kinds := [], alts := [], laidByText := true, laidKinds := [.sentinel, .sentinel, .sentinel], laidTests := true, laidLooks := .later }
def FnReadFromRoadCardSaid : Prop := Claim7.holds Tryd.pinned (.plain (OpenSpec.ofChange fnReadFromRoadSpec)) fnReadFromRoadCard

/-- THE TIED CARD OF 'laws.FnExactRunBuffer'. -/
def fnExactRunBufferCard : Claim7 := { stood := { row := fnExactRunBufferRow, standIns := [], harness := (true, "5f2d810e3ab91b6143a12f7d50e95feda75ee6440472725d8a308aa6ed554052"), looks := true }, kinds := [], alts := [], laidByText := true, laidKinds := [.data, .sentinel, .sentinel, .sentinel, .pinned], laidTests := true, laidLooks := .later }
def FnExactRunBufferCardSaid : Prop := Claim7.holds Tryd.pinned (.plain (OpenSpec.ofChange fnExactRunBufferSpec)) fnExactRunBufferCard

/-- THE TIED CARD OF 'laws.FnScriptSplit'. -/
def fnScriptSplitCard : Claim7 := { stood := { row := fnScriptSplitRow, standIns := [], harness := (true, "5f2d810e3ab91b6143a12f7d50e95feda75ee6440472725d8a308aa6ed554052"), looks := true }, kinds := [], alts := [], laidByText := true, laidKinds := [.data, .sentinel, .sentinel, .sentinel, .pinned], laidTests := true, laidLooks := .later }
def FnScriptSplitCardSaid : Prop := Claim7.holds Tryd.pinned (.plain (OpenSpec.ofChange fnScriptSplitSpec)) fnScriptSplitCard

/-- THE TIED CARD OF 'laws.FnUnreadRune'. -/
def fnUnreadRuneCard : Claim7 := { stood := { row := fnUnreadRuneRow, standIns := [], harness := (true, "5f2d810e3ab91b6143a12f7d50e95feda75ee6440472725d8a308aa6ed554052"), looks := true }, kinds := [], alts := [], laidByText := true, laidKinds := [.data, .sentinel, .sentinel, .sentinel, .pinned], laidTests := true, laidLooks := .later }
def FnUnreadRuneCardSaid : Prop := Claim7.holds Tryd.pinned (.plain (OpenSpec.ofChange fnUnreadRuneSpec)) fnUnreadRuneCard

/-- THE SECOND FORM's CARD OF 'laws.FnScriptBuilder'. -/
def fnScriptBuilderUptoCard : Claim7 := { stood := { row := fnScriptBuilderUptoRow, standIns := [], harness := (true, "5f2d810e3ab91b6143a12f7d50e95feda75ee6440472725d8a308aa6ed554052"), looks := true }, kinds := [], alts := [], laidByText := true, laidKinds := [.data, .sentinel, .sentinel, .sentinel, .pinned], laidTests := true, laidLooks := .later }
def FnScriptBuilderUptoCardSaid : Prop := Claim7.holds Tryd.pinned (.plain (OpenSpec.upto fnScriptBuilderSpec)) fnScriptBuilderUptoCard

/-- THE SECOND FORM's CARD OF 'laws.FnExactReadFrom'. -/
def fnExactReadFromUptoCard : Claim7 := { stood := { row := fnExactReadFromUptoRow, standIns := [], harness := (true, "5f2d810e3ab91b6143a12f7d50e95feda75ee6440472725d8a308aa6ed554052"), looks := true }, kinds := [], alts := [], laidByText := true, laidKinds := [.sentinel, .sentinel, .sentinel], laidTests := true, laidLooks := .later }
def FnExactReadFromUptoCardSaid : Prop := Claim7.holds Tryd.pinned (.plain (OpenSpec.upto fnExactReadFromSpec)) fnExactReadFromUptoCard

/-- THE SECOND FORM's CARD OF 'laws.FnExactRunBuilder'. -/
def fnExactRunBuilderUptoCard : Claim7 := { stood := { row := fnExactRunBuilderUptoRow, standIns := [], harness := (true, "5f2d810e3ab91b6143a12f7d50e95feda75ee6440472725d8a308aa6ed554052"), looks := true }, kinds := [], alts := [], laidByText := true, laidKinds := [.sentinel], laidTests := true, laidLooks := .later }
def FnExactRunBuilderUptoCardSaid : Prop := Claim7.holds Tryd.pinned (.plain (OpenSpec.upto fnExactRunBuilderSpec)) fnExactRunBuilderUptoCard

/-- THE SECOND FORM's CARD OF 'laws.FnReadFromRoad'. -/
def fnReadFromRoadUptoCard : Claim7 := { stood := { row := fnReadFromRoadUptoRow, standIns := [], harness := (true, "5f2d810e3ab91b6143a12f7d50e95feda75ee6440472725d8a308aa6ed554052"), looks := true }, kinds := [], alts := [], laidByText := true, laidKinds := [.sentinel, .sentinel, .sentinel], laidTests := true, laidLooks := .later }
def FnReadFromRoadUptoCardSaid : Prop := Claim7.holds Tryd.pinned (.plain (OpenSpec.upto fnReadFromRoadSpec)) fnReadFromRoadUptoCard

/-- THE SECOND FORM's CARD OF 'laws.FnExactRunBuffer'. -/
def fnExactRunBufferUptoCard : Claim7 := { stood := { row := fnExactRunBufferUptoRow, standIns := [], harness := (true, "5f2d810e3ab91b6143a12f7d50e95feda75ee6440472725d8a308aa6ed554052"), looks := true }, kinds := [], alts := [], laidByText := true, laidKinds := [.data, .sentinel, .sentinel, .sentinel, .pinned], laidTests := true, laidLooks := .later }
def FnExactRunBufferUptoCardSaid : Prop := Claim7.holds Tryd.pinned (.plain (OpenSpec.upto fnExactRunBufferSpec)) fnExactRunBufferUptoCard

/-- THE SECOND FORM's CARD OF 'laws.FnScriptSplit'. -/
def fnScriptSplitUptoCard : Claim7 := { stood := { row := fnScriptSplitUptoRow, standIns := [], harness := (true, "5f2d810e3ab91b6143a12f7d50e95feda75ee6440472725d8a308aa6ed554052"), looks := true }, kinds := [], alts := [], laidByText := true, laidKinds := [.data, .sentinel, .sentinel, .sentinel, .pinned], laidTests := true, laidLooks := .later }
def FnScriptSplitUptoCardSaid : Prop := Claim7.holds Tryd.pinned (.plain (OpenSpec.upto fnScriptSplitSpec)) fnScriptSplitUptoCard

/-- THE SECOND FORM's CARD OF 'laws.FnUnreadRune'. -/
def fnUnreadRuneUptoCard : Claim7 := { stood := { row := fnUnreadRuneUptoRow, standIns := [], harness := (true, "5f2d810e3ab91b6143a12f7d50e95feda75ee6440472725d8a308aa6ed554052"), looks := true }, kinds := [], alts := [], laidByText := true, laidKinds := [.data, .sentinel, .sentinel, .sentinel, .pinned], laidTests := true, laidLooks := .later }
def FnUnreadRuneUptoCardSaid : Prop := Claim7.holds Tryd.pinned (.plain (OpenSpec.upto fnUnreadRuneSpec)) fnUnreadRuneUptoCard
end Rows
end Go.Proofs.YtgjaeggpaomoaaaDoor
