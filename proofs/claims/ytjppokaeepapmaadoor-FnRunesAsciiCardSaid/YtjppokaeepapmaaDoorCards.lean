/-
  DERIVED. GIVEN WITH THE SEED: THE CARDS: each row of YtjppokaeepapmaaDoorRows.lean that lists a variable, with what it lists TIED to the program's text (the seventh form; the later family's looks); each row that meets fmt, with fmt's text TOLD by the authors' own Lean function (tested against real Go, not proved from fmt's source: count such statements apart). THE CARD IS WHAT COUNTS. Prove the row's statement (the work); the ties are given (YtjppokaeepapmaaDoorTie.lean); close each card by the builder's one call (the guide's Derived/Test/ToyasCard.lean, 'card_holds'). Laid BY PROGRAM, IN A SANDBOX (cutbox-door.mjs). By AI agents, Wed Nov 11 2026. No macro, syntax, notation, axiom, sorry.
-/
import Derived.Test.YtjppokaeepapmaaDoorRows
import GoSem.ClaimSeven
namespace Go.Proofs.YtjppokaeepapmaaDoor
namespace Rows

/-- THE TIED CARD OF 'laws.FnExactGrowText'. -/
def fnExactGrowTextCard : Claim7 := { stood := { row := fnExactGrowTextRow, standIns := [], harness := (true, "e952c4f31f4cb18c0c36b60dd87cce1aca12faba732034617cf799a41055b943"), looks := true }, kinds := [], alts := [], laidByText := true, laidKinds := [.sentinel], laidTests := true, laidLooks := .later }
def FnExactGrowTextCardSaid : Prop := Claim7.holds Tryd.pinned (.plain (OpenSpec.ofChange fnExactGrowTextSpec)) fnExactGrowTextCard

/-- THE TIED CARD OF 'laws.FnSpace'. -/
def fnSpaceCard : Claim7 := { stood := { row := fnSpaceRow, standIns := [], harness := (true, "e952c4f31f4cb18c0c36b60dd87cce1aca12faba732034617cf799a41055b943"), looks := true }, kinds := [], alts := [], laidByText := true, laidKinds := [.sentinel], laidTests := true, laidLooks := .later }
def FnSpaceCardSaid : Prop := Claim7.holds Tryd.pinned (.plain (OpenSpec.ofChange fnSpaceSpec)) fnSpaceCard

/-- THE TIED CARD OF 'laws.FnExactReadFrom'. -/
def fnExactReadFromCard : Claim7 := { stood := { row := fnExactReadFromRow, standIns := [], harness := (true, "e952c4f31f4cb18c0c36b60dd87cce1aca12faba732034617cf799a41055b943"), looks := true }, kinds := [], alts := [], laidByText := true, laidKinds := [.sentinel, .sentinel, .sentinel], laidTests := true, laidLooks := .later }
def FnExactReadFromCardSaid : Prop := Claim7.holds Tryd.pinned (.plain (OpenSpec.ofChange fnExactReadFromSpec)) fnExactReadFromCard

/-- THE TIED CARD OF 'laws.FnExactWriteRunes'. -/
def fnExactWriteRunesCard : Claim7 := { stood := { row := fnExactWriteRunesRow, standIns := [], harness := (true, "e952c4f31f4cb18c0c36b60dd87cce1aca12faba732034617cf799a41055b943"), looks := true }, kinds := [], alts := [], laidByText := true, laidKinds := [.sentinel], laidTests := true, laidLooks := .later }
def FnExactWriteRunesCardSaid : Prop := Claim7.holds Tryd.pinned (.plain (OpenSpec.ofChange fnExactWriteRunesSpec)) fnExactWriteRunesCard

/-- THE TIED CARD OF 'laws.FnExactWriteWrong'. -/
def fnExactWriteWrongCard : Claim7 := { stood := { row := fnExactWriteWrongRow, standIns := [], harness := (true, "e952c4f31f4cb18c0c36b60dd87cce1aca12faba732034617cf799a41055b943"), looks := true }, kinds := [], alts := [], laidByText := true, laidKinds := [.sentinel], laidTests := true, laidLooks := .later }
def FnExactWriteWrongCardSaid : Prop := Claim7.holds Tryd.pinned (.plain (OpenSpec.ofChange fnExactWriteWrongSpec)) fnExactWriteWrongCard

/-- THE TIED CARD OF 'laws.FnWriteRoads'. -/
def fnWriteRoadsCard : Claim7 := { stood := { row := fnWriteRoadsRow, standIns := [], harness := (true, "e952c4f31f4cb18c0c36b60dd87cce1aca12faba732034617cf799a41055b943"), looks := true }, kinds := [], alts := [], laidByText := true, laidKinds := [.sentinel], laidTests := true, laidLooks := .later }
def FnWriteRoadsCardSaid : Prop := Claim7.holds Tryd.pinned (.plain (OpenSpec.ofChange fnWriteRoadsSpec)) fnWriteRoadsCard

/-- THE TIED CARD OF 'laws.FnRunesAscii'. -/
def fnRunesAsciiCard : Claim7 := { stood := { row := fnRunesAsciiRow, standIns := [], harness := (true, "e952c4f31f4cb18c0c36b60dd87cce1aca12faba732034617cf799a41055b943"), looks := true }, kinds := [], alts := [], laidByText := true, laidKinds := [.sentinel], laidTests := true, laidLooks := .later }
def FnRunesAsciiCardSaid : Prop := Claim7.holds Tryd.pinned (.plain (OpenSpec.ofChange fnRunesAsciiSpec)) fnRunesAsciiCard

/-- THE TIED CARD OF 'laws.FnReadFromRoad'. -/
def fnReadFromRoadCard : Claim7 := { stood := { row := fnReadFromRoadRow, standIns := [], harness := (true, "e952c4f31f4cb18c0c36b60dd87cce1aca12faba732034617cf799a41055b943"), looks := true }, kinds := [], alts := [], laidByText := true, laidKinds := [.sentinel, .sentinel, .sentinel], laidTests := true, laidLooks := .later }
def FnReadFromRoadCardSaid : Prop := Claim7.holds Tryd.pinned (.plain (OpenSpec.ofChange fnReadFromRoadSpec)) fnReadFromRoadCard

/-- THE TIED CARD OF 'laws.FnTruncateReset'. -/
def fnTruncateResetCard : Claim7 := { stood := { row := fnTruncateResetRow, standIns := [], harness := (true, "e952c4f31f4cb18c0c36b60dd87cce1aca12faba732034617cf799a41055b943"), looks := true }, kinds := [], alts := [], laidByText := true, laidKinds := [.sentinel], laidTests := true, laidLooks := .later }
def FnTruncateResetCardSaid : Prop := Claim7.holds Tryd.pinned (.plain (OpenSpec.ofChange fnTruncateResetSpec)) fnTruncateResetCard

/-- THE TIED CARD OF 'laws.FnBuilderRoads'. -/
def fnBuilderRoadsCard : Claim7 := { stood := { row := fnBuilderRoadsRow, standIns := [], harness := (true, "e952c4f31f4cb18c0c36b60dd87cce1aca12faba732034617cf799a41055b943"), looks := true }, kinds := [], alts := [], laidByText := true, laidKinds := [.sentinel], laidTests := true, laidLooks := .later }
def FnBuilderRoadsCardSaid : Prop := Claim7.holds Tryd.pinned (.plain (OpenSpec.ofChange fnBuilderRoadsSpec)) fnBuilderRoadsCard

/-- THE TIED CARD OF 'laws.FnGrowKeeps'. -/
def fnGrowKeepsCard : Claim7 := { stood := { row := fnGrowKeepsRow, standIns := [], harness := (true, "e952c4f31f4cb18c0c36b60dd87cce1aca12faba732034617cf799a41055b943"), looks := true }, kinds := [], alts := [], laidByText := true, laidKinds := [.sentinel], laidTests := true, laidLooks := .later }
def FnGrowKeepsCardSaid : Prop := Claim7.holds Tryd.pinned (.plain (OpenSpec.ofChange fnGrowKeepsSpec)) fnGrowKeepsCard

/-- THE TIED CARD OF 'laws.FnBuilderRunes'. -/
def fnBuilderRunesCard : Claim7 := { stood := { row := fnBuilderRunesRow, standIns := [], harness := (true, "e952c4f31f4cb18c0c36b60dd87cce1aca12faba732034617cf799a41055b943"), looks := true }, kinds := [], alts := [], laidByText := true, laidKinds := [.sentinel], laidTests := true, laidLooks := .later }
def FnBuilderRunesCardSaid : Prop := Claim7.holds Tryd.pinned (.plain (OpenSpec.ofChange fnBuilderRunesSpec)) fnBuilderRunesCard

/-- THE SECOND FORM's CARD OF 'laws.FnExactGrowText'. -/
def fnExactGrowTextUptoCard : Claim7 := { stood := { row := fnExactGrowTextUptoRow, standIns := [], harness := (true, "e952c4f31f4cb18c0c36b60dd87cce1aca12faba732034617cf799a41055b943"), looks := true }, kinds := [], alts := [], laidByText := true, laidKinds := [.sentinel], laidTests := true, laidLooks := .later }
def FnExactGrowTextUptoCardSaid : Prop := Claim7.holds Tryd.pinned (.plain (OpenSpec.upto fnExactGrowTextSpec)) fnExactGrowTextUptoCard

/-- THE SECOND FORM's CARD OF 'laws.FnSpace'. -/
def fnSpaceUptoCard : Claim7 := { stood := { row := fnSpaceUptoRow, standIns := [], harness := (true, "e952c4f31f4cb18c0c36b60dd87cce1aca12faba732034617cf799a41055b943"), looks := true }, kinds := [], alts := [], laidByText := true, laidKinds := [.sentinel], laidTests := true, laidLooks := .later }
def FnSpaceUptoCardSaid : Prop := Claim7.holds Tryd.pinned (.plain (OpenSpec.upto fnSpaceSpec)) fnSpaceUptoCard

/-- THE SECOND FORM's CARD OF 'laws.FnExactReadFrom'. -/
def fnExactReadFromUptoCard : Claim7 := { stood := { row := fnExactReadFromUptoRow, standIns := [], harness := (true, "e952c4f31f4cb18c0c36b60dd87cce1aca12faba732034617cf799a41055b943"), looks := true }, kinds := [], alts := [], laidByText := true, laidKinds := [.sentinel, .sentinel, .sentinel], laidTests := true, laidLooks := .later }
def FnExactReadFromUptoCardSaid : Prop := Claim7.holds Tryd.pinned (.plain (OpenSpec.upto fnExactReadFromSpec)) fnExactReadFromUptoCard

/-- THE SECOND FORM's CARD OF 'laws.FnExactWriteRunes'. -/
def fnExactWriteRunesUptoCard : Claim7 := { stood := { row := fnExactWriteRunesUptoRow, standIns := [], harness := (true, "e952c4f31f4cb18c0c36b60dd87cce1aca12faba732034617cf799a41055b943"), looks := true }, kinds := [], alts := [], laidByText := true, laidKinds := [.sentinel], laidTests := true, laidLooks := .later }
def FnExactWriteRunesUptoCardSaid : Prop := Claim7.holds Tryd.pinned (.plain (OpenSpec.upto fnExactWriteRunesSpec)) fnExactWriteRunesUptoCard

/-- THE SECOND FORM's CARD OF 'laws.FnExactWriteWrong'. -/
def fnExactWriteWrongUptoCard : Claim7 := { stood := { row := fnExactWriteWrongUptoRow, standIns := [], harness := (true, "e952c4f31f4cb18c0c36b60dd87cce1aca12faba732034617cf799a41055b943"), looks := true }, kinds := [], alts := [], laidByText := true, laidKinds := [.sentinel], laidTests := true, laidLooks := .later }
def FnExactWriteWrongUptoCardSaid : Prop := Claim7.holds Tryd.pinned (.plain (OpenSpec.upto fnExactWriteWrongSpec)) fnExactWriteWrongUptoCard

/-- THE SECOND FORM's CARD OF 'laws.FnWriteRoads'. -/
def fnWriteRoadsUptoCard : Claim7 := { stood := { row := fnWriteRoadsUptoRow, standIns := [], harness := (true, "e952c4f31f4cb18c0c36b60dd87cce1aca12faba732034617cf799a41055b943"), looks := true }, kinds := [], alts := [], laidByText := true, laidKinds := [.sentinel], laidTests := true, laidLooks := .later }
def FnWriteRoadsUptoCardSaid : Prop := Claim7.holds Tryd.pinned (.plain (OpenSpec.upto fnWriteRoadsSpec)) fnWriteRoadsUptoCard

/-- THE SECOND FORM's CARD OF 'laws.FnRunesAscii'. -/
def fnRunesAsciiUptoCard : Claim7 := { stood := { row := fnRunesAsciiUptoRow, standIns := [], harness := (true, "e952c4f31f4cb18c0c36b60dd87cce1aca12faba732034617cf799a41055b943"), looks := true }, kinds := [], alts := [], laidByText := true, laidKinds := [.sentinel], laidTests := true, laidLooks := .later }
def FnRunesAsciiUptoCardSaid : Prop := Claim7.holds Tryd.pinned (.plain (OpenSpec.upto fnRunesAsciiSpec)) fnRunesAsciiUptoCard

/-- THE SECOND FORM's CARD OF 'laws.FnReadFromRoad'. -/
def fnReadFromRoadUptoCard : Claim7 := { stood := { row := fnReadFromRoadUptoRow, standIns := [], harness := (true, "e952c4f31f4cb18c0c36b60dd87cce1aca12faba732034617cf799a41055b943"), looks := true }, kinds := [], alts := [], laidByText := true, laidKinds := [.sentinel, .sentinel, .sentinel], laidTests := true, laidLooks := .later }
def FnReadFromRoadUptoCardSaid : Prop := Claim7.holds Tryd.pinned (.plain (OpenSpec.upto fnReadFromRoadSpec)) fnReadFromRoadUptoCard

/-- THE SECOND FORM's CARD OF 'laws.FnTruncateReset'. -/
def fnTruncateResetUptoCard : Claim7 := { stood := { row := fnTruncateResetUptoRow, standIns := [], harness := (true, "e952c4f31f4cb18c0c36b60dd87cce1aca12faba732034617cf799a41055b943"), looks := true }, kinds := [], alts := [], laidByText := true, laidKinds := [.sentinel], laidTests := true, laidLooks := .later }
def FnTruncateResetUptoCardSaid : Prop := Claim7.holds Tryd.pinned (.plain (OpenSpec.upto fnTruncateResetSpec)) fnTruncateResetUptoCard

/-- THE SECOND FORM's CARD OF 'laws.FnBuilderRoads'. -/
def fnBuilderRoadsUptoCard : Claim7 := { stood := { row := fnBuilderRoadsUptoRow, standIns := [], harness := (true, "e952c4f31f4cb18c0c36b60dd87cce1aca12faba732034617cf799a41055b943"), looks := true }, kinds := [], alts := [], laidByText := true, laidKinds := [.sentinel], laidTests := true, laidLooks := .later }
def FnBuilderRoadsUptoCardSaid : Prop := Claim7.holds Tryd.pinned (.plain (OpenSpec.upto fnBuilderRoadsSpec)) fnBuilderRoadsUptoCard

/-- THE SECOND FORM's CARD OF 'laws.FnGrowKeeps'. -/
def fnGrowKeepsUptoCard : Claim7 := { stood := { row := fnGrowKeepsUptoRow, standIns := [], harness := (true, "e952c4f31f4cb18c0c36b60dd87cce1aca12faba732034617cf799a41055b943"), looks := true }, kinds := [], alts := [], laidByText := true, laidKinds := [.sentinel], laidTests := true, laidLooks := .later }
def FnGrowKeepsUptoCardSaid : Prop := Claim7.holds Tryd.pinned (.plain (OpenSpec.upto fnGrowKeepsSpec)) fnGrowKeepsUptoCard

/-- THE SECOND FORM's CARD OF 'laws.FnBuilderRunes'. -/
def fnBuilderRunesUptoCard : Claim7 := { stood := { row := fnBuilderRunesUptoRow, standIns := [], harness := (true, "e952c4f31f4cb18c0c36b60dd87cce1aca12faba732034617cf799a41055b943"), looks := true }, kinds := [], alts := [], laidByText := true, laidKinds := [.sentinel], laidTests := true, laidLooks := .later }
def FnBuilderRunesUptoCardSaid : Prop := Claim7.holds Tryd.pinned (.plain (OpenSpec.upto fnBuilderRunesSpec)) fnBuilderRunesUptoCard
end Rows
end Go.Proofs.YtjppokaeepapmaaDoor
