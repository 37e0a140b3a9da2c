/-
  DERIVED. GIVEN WITH THE SEED: THE CARDS: each row of YtkdjapbogchaeaaDoorRows.lean that lists a variable, with what it lists TIED to the program's text (the seventh form; the later family's looks); each row that meets fmt, with fmt's text TOLD by the authors' own Lean function (tested against real Go, not proved from fmt's source: count such statements apart). THE CARD IS WHAT COUNTS. Prove the row's statement (the work); the ties are given (YtkdjapbogchaeaaDoorTie.lean); close each card by the builder's one call (the guide's Derived/Test/ToyasCard.lean, 'card_holds'). Laid BY PROGRAM, IN A SANDBOX (cutbox-door.mjs). By AI agents, Wed Nov 11 2026. No macro, syntax, notation, axiom, sorry.
-/
import Derived.Test.YtkdjapbogchaeaaDoorRows
import GoSem.ClaimSeven
namespace Go.Proofs.YtkdjapbogchaeaaDoor
namespace Rows

/-- THE TIED CARD OF 'laws.FnExactWriteAll'. -/
def fnExactWriteAllCard : Claim7 := { stood := { row := fnExactWriteAllRow, standIns := [], harness := (true, "ed231693e4c4a8f9ea835ee9f2b28bc6ff72aee30e6b9f44595b65d71d4e6d2b"), looks := true }, kinds := [], alts := [], laidByText := true, laidKinds := [.sentinel], laidTests := true, laidLooks := .later }
def FnExactWriteAllCardSaid : Prop := Claim7.holds Tryd.pinned (.plain (OpenSpec.ofChange fnExactWriteAllSpec)) fnExactWriteAllCard

/-- THE TIED CARD OF 'laws.FnWriteToRoad'. -/
def fnWriteToRoadCard : Claim7 := { stood := { row := fnWriteToRoadRow, standIns := [], harness := (true, "ed231693e4c4a8f9ea835ee9f2b28bc6ff72aee30e6b9f44595b65d71d4e6d2b"), looks := true }, kinds := [], alts := [], laidByText := true, laidKinds := [.sentinel], laidTests := true, laidLooks := .later }
def FnWriteToRoadCardSaid : Prop := Claim7.holds Tryd.pinned (.plain (OpenSpec.ofChange fnWriteToRoadSpec)) fnWriteToRoadCard

/-- THE TIED CARD OF 'laws.FnExactWriteSingles'. -/
def fnExactWriteSinglesCard : Claim7 := { stood := { row := fnExactWriteSinglesRow, standIns := [], harness := (true, "ed231693e4c4a8f9ea835ee9f2b28bc6ff72aee30e6b9f44595b65d71d4e6d2b"), looks := true }, kinds := [], alts := [], laidByText := true, laidKinds := [.sentinel], laidTests := true, laidLooks := .later }
def FnExactWriteSinglesCardSaid : Prop := Claim7.holds Tryd.pinned (.plain (OpenSpec.ofChange fnExactWriteSinglesSpec)) fnExactWriteSinglesCard

/-- THE TIED CARD OF 'laws.FnExactWriteFree'. -/
def fnExactWriteFreeCard : Claim7 := { stood := { row := fnExactWriteFreeRow, standIns := [], harness := (true, "ed231693e4c4a8f9ea835ee9f2b28bc6ff72aee30e6b9f44595b65d71d4e6d2b"), looks := true }, kinds := [], alts := [], laidByText := true, laidKinds := [.sentinel], laidTests := true, laidLooks := .later }
def FnExactWriteFreeCardSaid : Prop := Claim7.holds Tryd.pinned (.plain (OpenSpec.ofChange fnExactWriteFreeSpec)) fnExactWriteFreeCard

/-- THE TIED CARD OF 'laws.FnExactWriteSlices'. -/
def fnExactWriteSlicesCard : Claim7 := { stood := { row := fnExactWriteSlicesRow, standIns := [], harness := (true, "ed231693e4c4a8f9ea835ee9f2b28bc6ff72aee30e6b9f44595b65d71d4e6d2b"), looks := true }, kinds := [], alts := [], laidByText := true, laidKinds := [.sentinel], laidTests := true, laidLooks := .later }
def FnExactWriteSlicesCardSaid : Prop := Claim7.holds Tryd.pinned (.plain (OpenSpec.ofChange fnExactWriteSlicesSpec)) fnExactWriteSlicesCard

/-- THE TIED CARD OF 'laws.FnExactWriteStrings'. -/
def fnExactWriteStringsCard : Claim7 := { stood := { row := fnExactWriteStringsRow, standIns := [], harness := (true, "ed231693e4c4a8f9ea835ee9f2b28bc6ff72aee30e6b9f44595b65d71d4e6d2b"), looks := true }, kinds := [], alts := [], laidByText := true, laidKinds := [.sentinel], laidTests := true, laidLooks := .later }
def FnExactWriteStringsCardSaid : Prop := Claim7.holds Tryd.pinned (.plain (OpenSpec.ofChange fnExactWriteStringsSpec)) fnExactWriteStringsCard

/-- THE TIED CARD OF 'laws.FnWriteCounts'. -/
def fnWriteCountsCard : Claim7 := { stood := { row := fnWriteCountsRow, standIns := [], harness := (true, "ed231693e4c4a8f9ea835ee9f2b28bc6ff72aee30e6b9f44595b65d71d4e6d2b"), looks := true }, kinds := [], alts := [], laidByText := true, laidKinds := [.sentinel], laidTests := true, laidLooks := .later }
def FnWriteCountsCardSaid : Prop := Claim7.holds Tryd.pinned (.plain (OpenSpec.ofChange fnWriteCountsSpec)) fnWriteCountsCard

/-- THE TIED CARD OF 'laws.FnWriteTwice'. -/
def fnWriteTwiceCard : Claim7 := { stood := { row := fnWriteTwiceRow, standIns := [], harness := (true, "ed231693e4c4a8f9ea835ee9f2b28bc6ff72aee30e6b9f44595b65d71d4e6d2b"), looks := true }, kinds := [], alts := [], laidByText := true, laidKinds := [.sentinel], laidTests := true, laidLooks := .later }
def FnWriteTwiceCardSaid : Prop := Claim7.holds Tryd.pinned (.plain (OpenSpec.ofChange fnWriteTwiceSpec)) fnWriteTwiceCard

/-- THE TIED CARD OF 'laws.FnExactGrowAndWrite'. -/
def fnExactGrowAndWriteCard : Claim7 := { stood := { row := fnExactGrowAndWriteRow, standIns := [], harness := (true, "ed231693e4c4a8f9ea835ee9f2b28bc6ff72aee30e6b9f44595b65d71d4e6d2b"), looks := true }, kinds := [], alts := [], laidByText := true, laidKinds := [.sentinel], laidTests := true, laidLooks := .later }
def FnExactGrowAndWriteCardSaid : Prop := Claim7.holds Tryd.pinned (.plain (OpenSpec.ofChange fnExactGrowAndWriteSpec)) fnExactGrowAndWriteCard

/-- THE TIED CARD OF 'laws.FnWriteFreeRoad'. -/
def fnWriteFreeRoadCard : Claim7 := { stood := { row := fnWriteFreeRoadRow, standIns := [], harness := (true, "ed231693e4c4a8f9ea835ee9f2b28bc6ff72aee30e6b9f44595b65d71d4e6d2b"), looks := true }, kinds := [], alts := [], laidByText := true, laidKinds := [.sentinel], laidTests := true, laidLooks := .later }
def FnWriteFreeRoadCardSaid : Prop := Claim7.holds Tryd.pinned (.plain (OpenSpec.ofChange fnWriteFreeRoadSpec)) fnWriteFreeRoadCard

/-- THE TIED CARD OF 'laws.FnExactReset'. -/
def fnExactResetCard : Claim7 := { stood := { row := fnExactResetRow, standIns := [], harness := (true, "ed231693e4c4a8f9ea835ee9f2b28bc6ff72aee30e6b9f44595b65d71d4e6d2b"), looks := true }, kinds := [], alts := [], laidByText := true, laidKinds := [.sentinel], laidTests := true, laidLooks := .later }
def FnExactResetCardSaid : Prop := Claim7.holds Tryd.pinned (.plain (OpenSpec.ofChange fnExactResetSpec)) fnExactResetCard

/-- THE TIED CARD OF 'laws.FnExactGrow'. -/
def fnExactGrowCard : Claim7 := { stood := { row := fnExactGrowRow, standIns := [], harness := (true, "ed231693e4c4a8f9ea835ee9f2b28bc6ff72aee30e6b9f44595b65d71d4e6d2b"), looks := true }, kinds := [], alts := [], laidByText := true, laidKinds := [.sentinel], laidTests := true, laidLooks := .later }
def FnExactGrowCardSaid : Prop := Claim7.holds Tryd.pinned (.plain (OpenSpec.ofChange fnExactGrowSpec)) fnExactGrowCard

/-- THE SECOND FORM's CARD OF 'laws.FnExactWriteAll'. -/
def fnExactWriteAllUptoCard : Claim7 := { stood := { row := fnExactWriteAllUptoRow, standIns := [], harness := (true, "ed231693e4c4a8f9ea835ee9f2b28bc6ff72aee30e6b9f44595b65d71d4e6d2b"), looks := true }, kinds := [], alts := [], laidByText := true, laidKinds := [.sentinel], laidTests := true, laidLooks := .later }
def FnExactWriteAllUptoCardSaid : Prop := Claim7.holds Tryd.pinned (.plain (OpenSpec.upto fnExactWriteAllSpec)) fnExactWriteAllUptoCard

/-- THE SECOND FORM's CARD OF 'laws.FnWriteToRoad'. -/
def fnWriteToRoadUptoCard : Claim7 := { stood := { row := fnWriteToRoadUptoRow, standIns := [], harness := (true, "ed231693e4c4a8f9ea835ee9f2b28bc6ff72aee30e6b9f44595b65d71d4e6d2b"), looks := true }, kinds := [], alts := [], laidByText := true, laidKinds := [.sentinel], laidTests := true, laidLooks := .later }
def FnWriteToRoadUptoCardSaid : Prop := Claim7.holds Tryd.pinned (.plain (OpenSpec.upto fnWriteToRoadSpec)) fnWriteToRoadUptoCard

/-- THE SECOND FORM's CARD OF 'laws.FnExactWriteSingles'. -/
def fnExactWriteSinglesUptoCard : Claim7 := { stood := { row := fnExactWriteSinglesUptoRow, standIns := [], harness := (true, "ed231693e4c4a8f9ea835ee9f2b28bc6ff72aee30e6b9f44595b65d71d4e6d2b"), looks := true }, kinds := [], alts := [], laidByText := true, laidKinds := [.sentinel], laidTests := true, laidLooks := .later }
def FnExactWriteSinglesUptoCardSaid : Prop := Claim7.holds Tryd.pinned (.plain (OpenSpec.upto fnExactWriteSinglesSpec)) fnExactWriteSinglesUptoCard

/-- THE SECOND FORM's CARD OF 'laws.FnExactWriteFree'. -/
def fnExactWriteFreeUptoCard : Claim7 := { stood := { row := fnExactWriteFreeUptoRow, standIns := [], harness := (true, "ed231693e4c4a8f9ea835ee9f2b28bc6ff72aee30e6b9f44595b65d71d4e6d2b"), looks := true }, kinds := [], alts := [], laidByText := true, laidKinds := [.sentinel], laidTests := true, laidLooks := .later }
def FnExactWriteFreeUptoCardSaid : Prop := Claim7.holds Tryd.pinned (.plain (OpenSpec.upto fnExactWriteFreeSpec)) fnExactWriteFreeUptoCard

/-- THE SECOND FORM's CARD OF 'laws.FnExactWriteSlices'. -/
def fnExactWriteSlicesUptoCard : Claim7 := { stood := { row := fnExactWriteSlicesUptoRow, standIns := [], harness := (true, "ed231693e4c4a8f9ea835ee9f2b28bc6ff72aee30e6b9f44595b65d71d4e6d2b"), looks := true }, kinds := [], alts := [], laidByText := true, laidKinds := [.sentinel], laidTests := true, laidLooks := .later }
def FnExactWriteSlicesUptoCardSaid : Prop := Claim7.holds Tryd.pinned (.plain (OpenSpec.upto fnExactWriteSlicesSpec)) fnExactWriteSlicesUptoCard

/-- THE SECOND FORM's CARD OF 'laws.FnExactWriteStrings'. -/
def fnExactWriteStringsUptoCard : Claim7 := { stood := { row := fnExactWriteStringsUptoRow, standIns := [], harness := (true, "ed231693e4c4a8f9ea835ee9f2b28bc6ff72aee30e6b9f44595b65d71d4e6d2b"), looks := true }, kinds := [], alts := [], laidByText := true, laidKinds := [.sentinel], laidTests := true, laidLooks := .later }
def FnExactWriteStringsUptoCardSaid : Prop := Claim7.holds Tryd.pinned (.plain (OpenSpec.upto fnExactWriteStringsSpec)) fnExactWriteStringsUptoCard

/-- THE SECOND FORM's CARD OF 'laws.FnWriteCounts'. -/
def fnWriteCountsUptoCard : Claim7 := { stood := { row := fnWriteCountsUptoRow, standIns := [], harness := (true, "ed231693e4c4a8f9ea835ee9f2b28bc6ff72aee30e6b9f44595b65d71d4e6d2b"), looks := true }, kinds := [], alts := [], laidByText := true, laidKinds := [.sentinel], laidTests := true, laidLooks := .later }
def FnWriteCountsUptoCardSaid : Prop := Claim7.holds Tryd.pinned (.plain (OpenSpec.upto fnWriteCountsSpec)) fnWriteCountsUptoCard

/-- THE SECOND FORM's CARD OF 'laws.FnWriteTwice'. -/
def fnWriteTwiceUptoCard : Claim7 := { stood := { row := fnWriteTwiceUptoRow, standIns := [], harness := (true, "ed231693e4c4a8f9ea835ee9f2b28bc6ff72aee30e6b9f44595b65d71d4e6d2b"), looks := true }, kinds := [], alts := [], laidByText := true, laidKinds := [.sentinel], laidTests := true, laidLooks := .later }
def FnWriteTwiceUptoCardSaid : Prop := Claim7.holds Tryd.pinned (.plain (OpenSpec.upto fnWriteTwiceSpec)) fnWriteTwiceUptoCard

/-- THE SECOND FORM's CARD OF 'laws.FnExactGrowAndWrite'. -/
def fnExactGrowAndWriteUptoCard : Claim7 := { stood := { row := fnExactGrowAndWriteUptoRow, standIns := [], harness := (true, "ed231693e4c4a8f9ea835ee9f2b28bc6ff72aee30e6b9f44595b65d71d4e6d2b"), looks := true }, kinds := [], alts := [], laidByText := true, laidKinds := [.sentinel], laidTests := true, laidLooks := .later }
def FnExactGrowAndWriteUptoCardSaid : Prop := Claim7.holds Tryd.pinned (.plain (OpenSpec.upto fnExactGrowAndWriteSpec)) fnExactGrowAndWriteUptoCard

/-- THE SECOND FORM's CARD OF 'laws.FnWriteFreeRoad'. -/
def fnWriteFreeRoadUptoCard : Claim7 := { stood := { row := fnWriteFreeRoadUptoRow, standIns := [], harness := (true, "ed231693e4c4a8f9ea835ee9f2b28bc6ff72aee30e6b9f44595b65d71d4e6d2b"), looks := true }, kinds := [], alts := [], laidByText := true, laidKinds := [.sentinel], laidTests := true, laidLooks := .later }
def FnWriteFreeRoadUptoCardSaid : Prop := Claim7.holds Tryd.pinned (.plain (OpenSpec.upto fnWriteFreeRoadSpec)) fnWriteFreeRoadUptoCard

/-- THE SECOND FORM's CARD OF 'laws.FnExactReset'. -/
def fnExactResetUptoCard : Claim7 := { stood := { row := fnExactResetUptoRow, standIns := [], harness := (true, "ed231693e4c4a8f9ea835ee9f2b28bc6ff72aee30e6b9f44595b65d71d4e6d2b"), looks := true }, kinds := [], alts := [], laidByText := true, laidKinds := [.sentinel], laidTests := true, laidLooks := .later }
def FnExactResetUptoCardSaid : Prop := Claim7.holds Tryd.pinned (.plain (OpenSpec.upto fnExactResetSpec)) fnExactResetUptoCard

/-- THE SECOND FORM's CARD OF 'laws.FnExactGrow'. -/
def fnExactGrowUptoCard : Claim7 := { stood := { row := fnExactGrowUptoRow, standIns := [], harness := (true, "ed231693e4c4a8f9ea835ee9f2b28bc6ff72aee30e6b9f44595b65d71d4e6d2b"), looks := true }, kinds := [], alts := [], laidByText := true, laidKinds := [.sentinel], laidTests := true, laidLooks := .later }
def FnExactGrowUptoCardSaid : Prop := Claim7.holds Tryd.pinned (.plain (OpenSpec.upto fnExactGrowSpec)) fnExactGrowUptoCard
end Rows
end Go.Proofs.YtkdjapbogchaeaaDoor
