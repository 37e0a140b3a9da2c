/-
  DERIVED. GIVEN WITH THE SEED: THE CARDS: each row of YtbogmdgooifhnaaDoorRows.lean that lists a variable, with what it lists TIED to the program's text (the seventh form; the later family's looks); each row that meets fmt, with fmt's text TOLD by the authors' own Lean function (tested against real Go, not proved from fmt's source: count such statements apart). THE CARD IS WHAT COUNTS. Prove the row's statement (the work); the ties are given (YtbogmdgooifhnaaDoorTie.lean); close each card by the builder's one call (the guide's Derived/Test/ToyasCard.lean, 'card_holds'). Laid BY PROGRAM, IN A SANDBOX (cutbox-door.mjs). By AI agents, Wed Nov 11 2026. No macro, syntax, notation, axiom, sorry.
-/
import Derived.Test.YtbogmdgooifhnaaDoorRows
import GoSem.ClaimSeven
namespace Go.Proofs.YtbogmdgooifhnaaDoor
namespace Rows

/-- THE TIED CARD OF 'laws.FnExactReadStrings'. -/
def fnExactReadStringsCard : Claim7 := { stood := { row := fnExactReadStringsRow, standIns := [], harness := (true, "77130175bce0f83c6ba1bb1f637860d55bb1c51300aff661586a66dcca63ac46"), looks := true }, kinds := [], alts := [], laidByText := true, laidKinds := [.sentinel], laidTests := true, laidLooks := .later }
def FnExactReadStringsCardSaid : Prop := Claim7.holds Tryd.pinned (.plain (OpenSpec.ofChange fnExactReadStringsSpec)) fnExactReadStringsCard

/-- THE TIED CARD OF 'laws.FnLinesAll'. -/
def fnLinesAllCard : Claim7 := { stood := { row := fnLinesAllRow, standIns := [], harness := (true, "77130175bce0f83c6ba1bb1f637860d55bb1c51300aff661586a66dcca63ac46"), looks := true }, kinds := [], alts := [], laidByText := true, laidKinds := [.sentinel], laidTests := true, laidLooks := .later }
def FnLinesAllCardSaid : Prop := Claim7.holds Tryd.pinned (.plain (OpenSpec.ofChange fnLinesAllSpec)) fnLinesAllCard

/-- THE TIED CARD OF 'laws.FnExactReadSingles'. -/
def fnExactReadSinglesCard : Claim7 := { stood := { row := fnExactReadSinglesRow, standIns := [], harness := (true, "77130175bce0f83c6ba1bb1f637860d55bb1c51300aff661586a66dcca63ac46"), looks := true }, kinds := [], alts := [], laidByText := true, laidKinds := [.sentinel], laidTests := true, laidLooks := .later }
def FnExactReadSinglesCardSaid : Prop := Claim7.holds Tryd.pinned (.plain (OpenSpec.ofChange fnExactReadSinglesSpec)) fnExactReadSinglesCard

/-- THE TIED CARD OF 'laws.FnExactReadSlices'. -/
def fnExactReadSlicesCard : Claim7 := { stood := { row := fnExactReadSlicesRow, standIns := [], harness := (true, "77130175bce0f83c6ba1bb1f637860d55bb1c51300aff661586a66dcca63ac46"), looks := true }, kinds := [], alts := [], laidByText := true, laidKinds := [.sentinel], laidTests := true, laidLooks := .later }
def FnExactReadSlicesCardSaid : Prop := Claim7.holds Tryd.pinned (.plain (OpenSpec.ofChange fnExactReadSlicesSpec)) fnExactReadSlicesCard

/-- THE TIED CARD OF 'laws.FnLinesEnd'. -/
def fnLinesEndCard : Claim7 := { stood := { row := fnLinesEndRow, standIns := [], harness := (true, "77130175bce0f83c6ba1bb1f637860d55bb1c51300aff661586a66dcca63ac46"), looks := true }, kinds := [], alts := [], laidByText := true, laidKinds := [.sentinel], laidTests := true, laidLooks := .later }
def FnLinesEndCardSaid : Prop := Claim7.holds Tryd.pinned (.plain (OpenSpec.ofChange fnLinesEndSpec)) fnLinesEndCard

/-- THE TIED CARD OF 'laws.FnExactReadChunks'. -/
def fnExactReadChunksCard : Claim7 := { stood := { row := fnExactReadChunksRow, standIns := [], harness := (true, "77130175bce0f83c6ba1bb1f637860d55bb1c51300aff661586a66dcca63ac46"), looks := true }, kinds := [], alts := [], laidByText := true, laidKinds := [.sentinel], laidTests := true, laidLooks := .later }
def FnExactReadChunksCardSaid : Prop := Claim7.holds Tryd.pinned (.plain (OpenSpec.ofChange fnExactReadChunksSpec)) fnExactReadChunksCard

/-- THE TIED CARD OF 'laws.FnReadCuts'. -/
def fnReadCutsCard : Claim7 := { stood := { row := fnReadCutsRow, standIns := [], harness := (true, "77130175bce0f83c6ba1bb1f637860d55bb1c51300aff661586a66dcca63ac46"), looks := true }, kinds := [], alts := [], laidByText := true, laidKinds := [.sentinel], laidTests := true, laidLooks := .later }
def FnReadCutsCardSaid : Prop := Claim7.holds Tryd.pinned (.plain (OpenSpec.ofChange fnReadCutsSpec)) fnReadCutsCard

/-- THE TIED CARD OF 'laws.FnReadMore'. -/
def fnReadMoreCard : Claim7 := { stood := { row := fnReadMoreRow, standIns := [], harness := (true, "77130175bce0f83c6ba1bb1f637860d55bb1c51300aff661586a66dcca63ac46"), looks := true }, kinds := [], alts := [], laidByText := true, laidKinds := [.sentinel], laidTests := true, laidLooks := .later }
def FnReadMoreCardSaid : Prop := Claim7.holds Tryd.pinned (.plain (OpenSpec.ofChange fnReadMoreSpec)) fnReadMoreCard

/-- THE TIED CARD OF 'laws.FnPeekNext'. -/
def fnPeekNextCard : Claim7 := { stood := { row := fnPeekNextRow, standIns := [], harness := (true, "77130175bce0f83c6ba1bb1f637860d55bb1c51300aff661586a66dcca63ac46"), looks := true }, kinds := [], alts := [], laidByText := true, laidKinds := [.sentinel], laidTests := true, laidLooks := .later }
def FnPeekNextCardSaid : Prop := Claim7.holds Tryd.pinned (.plain (OpenSpec.ofChange fnPeekNextSpec)) fnPeekNextCard

/-- THE TIED CARD OF 'laws.FnLinesRoads'. -/
def fnLinesRoadsCard : Claim7 := { stood := { row := fnLinesRoadsRow, standIns := [], harness := (true, "77130175bce0f83c6ba1bb1f637860d55bb1c51300aff661586a66dcca63ac46"), looks := true }, kinds := [], alts := [], laidByText := true, laidKinds := [.sentinel], laidTests := true, laidLooks := .later }
def FnLinesRoadsCardSaid : Prop := Claim7.holds Tryd.pinned (.plain (OpenSpec.ofChange fnLinesRoadsSpec)) fnLinesRoadsCard

/-- THE TIED CARD OF 'laws.FnReadRoads'. -/
def fnReadRoadsCard : Claim7 := { stood := { row := fnReadRoadsRow, standIns := [], harness := (true, "77130175bce0f83c6ba1bb1f637860d55bb1c51300aff661586a66dcca63ac46"), looks := true }, kinds := [], alts := [], laidByText := true, laidKinds := [.sentinel], laidTests := true, laidLooks := .later }
def FnReadRoadsCardSaid : Prop := Claim7.holds Tryd.pinned (.plain (OpenSpec.ofChange fnReadRoadsSpec)) fnReadRoadsCard

/-- THE TIED CARD OF 'laws.FnReadSingle'. -/
def fnReadSingleCard : Claim7 := { stood := { row := fnReadSingleRow, standIns := [], harness := (true, "77130175bce0f83c6ba1bb1f637860d55bb1c51300aff661586a66dcca63ac46"), looks := true }, kinds := [], alts := [], laidByText := true, laidKinds := [.sentinel], laidTests := true, laidLooks := .later }
def FnReadSingleCardSaid : Prop := Claim7.holds Tryd.pinned (.plain (OpenSpec.ofChange fnReadSingleSpec)) fnReadSingleCard

/-- THE SECOND FORM's CARD OF 'laws.FnExactReadStrings'. -/
def fnExactReadStringsUptoCard : Claim7 := { stood := { row := fnExactReadStringsUptoRow, standIns := [], harness := (true, "77130175bce0f83c6ba1bb1f637860d55bb1c51300aff661586a66dcca63ac46"), looks := true }, kinds := [], alts := [], laidByText := true, laidKinds := [.sentinel], laidTests := true, laidLooks := .later }
def FnExactReadStringsUptoCardSaid : Prop := Claim7.holds Tryd.pinned (.plain (OpenSpec.upto fnExactReadStringsSpec)) fnExactReadStringsUptoCard

/-- THE SECOND FORM's CARD OF 'laws.FnLinesAll'. -/
def fnLinesAllUptoCard : Claim7 := { stood := { row := fnLinesAllUptoRow, standIns := [], harness := (true, "77130175bce0f83c6ba1bb1f637860d55bb1c51300aff661586a66dcca63ac46"), looks := true }, kinds := [], alts := [], laidByText := true, laidKinds := [.sentinel], laidTests := true, laidLooks := .later }
def FnLinesAllUptoCardSaid : Prop := Claim7.holds Tryd.pinned (.plain (OpenSpec.upto fnLinesAllSpec)) fnLinesAllUptoCard

/-- THE SECOND FORM's CARD OF 'laws.FnExactReadSingles'. -/
def fnExactReadSinglesUptoCard : Claim7 := { stood := { row := fnExactReadSinglesUptoRow, standIns := [], harness := (true, "77130175bce0f83c6ba1bb1f637860d55bb1c51300aff661586a66dcca63ac46"), looks := true }, kinds := [], alts := [], laidByText := true, laidKinds := [.sentinel], laidTests := true, laidLooks := .later }
def FnExactReadSinglesUptoCardSaid : Prop := Claim7.holds Tryd.pinned (.plain (OpenSpec.upto fnExactReadSinglesSpec)) fnExactReadSinglesUptoCard

/-- THE SECOND FORM's CARD OF 'laws.FnExactReadSlices'. -/
def fnExactReadSlicesUptoCard : Claim7 := { stood := { row := fnExactReadSlicesUptoRow, standIns := [], harness := (true, "77130175bce0f83c6ba1bb1f637860d55bb1c51300aff661586a66dcca63ac46"), looks := true }, kinds := [], alts := [], laidByText := true, laidKinds := [.sentinel], laidTests := true, laidLooks := .later }
def FnExactReadSlicesUptoCardSaid : Prop := Claim7.holds Tryd.pinned (.plain (OpenSpec.upto fnExactReadSlicesSpec)) fnExactReadSlicesUptoCard

/-- THE SECOND FORM's CARD OF 'laws.FnLinesEnd'. -/
def fnLinesEndUptoCard : Claim7 := { stood := { row := fnLinesEndUptoRow, standIns := [], harness := (true, "77130175bce0f83c6ba1bb1f637860d55bb1c51300aff661586a66dcca63ac46"), looks := true }, kinds := [], alts := [], laidByText := true, laidKinds := [.sentinel], laidTests := true, laidLooks := .later }
def FnLinesEndUptoCardSaid : Prop := Claim7.holds Tryd.pinned (.plain (OpenSpec.upto fnLinesEndSpec)) fnLinesEndUptoCard

/-- THE SECOND FORM's CARD OF 'laws.FnExactReadChunks'. -/
def fnExactReadChunksUptoCard : Claim7 := { stood := { row := fnExactReadChunksUptoRow, standIns := [], harness := (true, "77130175bce0f83c6ba1bb1f637860d55bb1c51300aff661586a66dcca63ac46"), looks := true }, kinds := [], alts := [], laidByText := true, laidKinds := [.sentinel], laidTests := true, laidLooks := .later }
def FnExactReadChunksUptoCardSaid : Prop := Claim7.holds Tryd.pinned (.plain (OpenSpec.upto fnExactReadChunksSpec)) fnExactReadChunksUptoCard

/-- THE SECOND FORM's CARD OF 'laws.FnReadCuts'. -/
def fnReadCutsUptoCard : Claim7 := { stood := { row := fnReadCutsUptoRow, standIns := [], harness := (true, "77130175bce0f83c6ba1bb1f637860d55bb1c51300aff661586a66dcca63ac46"), looks := true }, kinds := [], alts := [], laidByText := true, laidKinds := [.sentinel], laidTests := true, laidLooks := .later }
def FnReadCutsUptoCardSaid : Prop := Claim7.holds Tryd.pinned (.plain (OpenSpec.upto fnReadCutsSpec)) fnReadCutsUptoCard

/-- THE SECOND FORM's CARD OF 'laws.FnReadMore'. -/
def fnReadMoreUptoCard : Claim7 := { stood := { row := fnReadMoreUptoRow, standIns := [], harness := (true, "77130175bce0f83c6ba1bb1f637860d55bb1c51300aff661586a66dcca63ac46"), looks := true }, kinds := [], alts := [], laidByText := true, laidKinds := [.sentinel], laidTests := true, laidLooks := .later }
def FnReadMoreUptoCardSaid : Prop := Claim7.holds Tryd.pinned (.plain (OpenSpec.upto fnReadMoreSpec)) fnReadMoreUptoCard

/-- THE SECOND FORM's CARD OF 'laws.FnPeekNext'. -/
def fnPeekNextUptoCard : Claim7 := { stood := { row := fnPeekNextUptoRow, standIns := [], harness := (true, "77130175bce0f83c6ba1bb1f637860d55bb1c51300aff661586a66dcca63ac46"), looks := true }, kinds := [], alts := [], laidByText := true, laidKinds := [.sentinel], laidTests := true, laidLooks := .later }
def FnPeekNextUptoCardSaid : Prop := Claim7.holds Tryd.pinned (.plain (OpenSpec.upto fnPeekNextSpec)) fnPeekNextUptoCard

/-- THE SECOND FORM's CARD OF 'laws.FnLinesRoads'. -/
def fnLinesRoadsUptoCard : Claim7 := { stood := { row := fnLinesRoadsUptoRow, standIns := [], harness := (true, "77130175bce0f83c6ba1bb1f637860d55bb1c51300aff661586a66dcca63ac46"), looks := true }, kinds := [], alts := [], laidByText := true, laidKinds := [.sentinel], laidTests := true, laidLooks := .later }
def FnLinesRoadsUptoCardSaid : Prop := Claim7.holds Tryd.pinned (.plain (OpenSpec.upto fnLinesRoadsSpec)) fnLinesRoadsUptoCard

/-- THE SECOND FORM's CARD OF 'laws.FnReadRoads'. -/
def fnReadRoadsUptoCard : Claim7 := { stood := { row := fnReadRoadsUptoRow, standIns := [], harness := (true, "77130175bce0f83c6ba1bb1f637860d55bb1c51300aff661586a66dcca63ac46"), looks := true }, kinds := [], alts := [], laidByText := true, laidKinds := [.sentinel], laidTests := true, laidLooks := .later }
def FnReadRoadsUptoCardSaid : Prop := Claim7.holds Tryd.pinned (.plain (OpenSpec.upto fnReadRoadsSpec)) fnReadRoadsUptoCard

/-- THE SECOND FORM's CARD OF 'laws.FnReadSingle'. -/
def fnReadSingleUptoCard : Claim7 := { stood := { row := fnReadSingleUptoRow, standIns := [], harness := (true, "77130175bce0f83c6ba1bb1f637860d55bb1c51300aff661586a66dcca63ac46"), looks := true }, kinds := [], alts := [], laidByText := true, laidKinds := [.sentinel], laidTests := true, laidLooks := .later }
def FnReadSingleUptoCardSaid : Prop := Claim7.holds Tryd.pinned (.plain (OpenSpec.upto fnReadSingleSpec)) fnReadSingleUptoCard
end Rows
end Go.Proofs.YtbogmdgooifhnaaDoor
