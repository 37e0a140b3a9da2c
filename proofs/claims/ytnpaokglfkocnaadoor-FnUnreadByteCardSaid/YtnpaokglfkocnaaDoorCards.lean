/-
  DERIVED. GIVEN WITH THE SEED: THE CARDS: each row of YtnpaokglfkocnaaDoorRows.lean that lists a variable, with what it lists TIED to the program's text (the seventh form; the later family's looks); each row that meets fmt, with fmt's text TOLD by the authors' own Lean function (tested against real Go, not proved from fmt's source: count such statements apart). THE CARD IS WHAT COUNTS. Prove the row's statement (the work); the ties are given (YtnpaokglfkocnaaDoorTie.lean); close each card by the builder's one call (the guide's Derived/Test/ToyasCard.lean, 'card_holds'). Laid BY PROGRAM, IN A SANDBOX (cutbox-door.mjs). By AI agents, Wed Nov 11 2026. No macro, syntax, notation, axiom, sorry.
-/
import Derived.Test.YtnpaokglfkocnaaDoorRows
import GoSem.ClaimSeven
namespace Go.Proofs.YtnpaokglfkocnaaDoor
namespace Rows

/-- THE TIED CARD OF 'laws.FnBuilderRunes'. -/
def fnBuilderRunesCard : Claim7 := { stood := { row := fnBuilderRunesRow, standIns := [], harness := (true, "e9e6307e989a150a5a742335eefb2c5aa721505ce1c39000f1a56091d32ba5f2"), looks := true }, kinds := [], alts := [], laidByText := true, laidKinds := [.sentinel], laidTests := true, laidLooks := .later }
def FnBuilderRunesCardSaid : Prop := Claim7.holds Tryd.pinned (.plain (OpenSpec.ofChange fnBuilderRunesSpec)) fnBuilderRunesCard

/-- THE TIED CARD OF 'laws.FnExactReadFrom'. -/
def fnExactReadFromCard : Claim7 := { stood := { row := fnExactReadFromRow, standIns := [], harness := (true, "e9e6307e989a150a5a742335eefb2c5aa721505ce1c39000f1a56091d32ba5f2"), looks := true }, kinds := [], alts := [], laidByText := true, laidKinds := [.sentinel, .sentinel, .sentinel], laidTests := true, laidLooks := .later }
def FnExactReadFromCardSaid : Prop := Claim7.holds Tryd.pinned (.plain (OpenSpec.ofChange fnExactReadFromSpec)) fnExactReadFromCard

/-- THE TIED CARD OF 'laws.FnReadFromRoad'. -/
def fnReadFromRoadCard : Claim7 := { stood := { row := fnReadFromRoadRow, standIns := [], harness := (true, "e9e6307e989a150a5a742335eefb2c5aa721505ce1c39000f1a56091d32ba5f2"), looks := true }, kinds := [], alts := [], laidByText := true, laidKinds := [.sentinel, .sentinel, .sentinel], laidTests := true, laidLooks := .later }
def FnReadFromRoadCardSaid : Prop := Claim7.holds Tryd.pinned (.plain (OpenSpec.ofChange fnReadFromRoadSpec)) fnReadFromRoadCard

/-- THE TIED CARD OF 'laws.FnExactReadRunes'. -/
def fnExactReadRunesCard : Claim7 := { stood := { row := fnExactReadRunesRow, standIns := [], harness := (true, "e9e6307e989a150a5a742335eefb2c5aa721505ce1c39000f1a56091d32ba5f2"), looks := true }, kinds := [], alts := [], laidByText := true, laidKinds := [.data, .sentinel, .pinned], laidTests := true, laidLooks := .later }
def FnExactReadRunesCardSaid : Prop := Claim7.holds Tryd.pinned (.plain (OpenSpec.ofChange fnExactReadRunesSpec)) fnExactReadRunesCard

/-- THE TIED CARD OF 'laws.FnReadRunesAll'. -/
def fnReadRunesAllCard : Claim7 := { stood := { row := fnReadRunesAllRow, standIns := [], harness := (true, "e9e6307e989a150a5a742335eefb2c5aa721505ce1c39000f1a56091d32ba5f2"), looks := true }, kinds := [], alts := [], laidByText := true, laidKinds := [.data, .sentinel, .sentinel, .pinned], laidTests := true, laidLooks := .later }
def FnReadRunesAllCardSaid : Prop := Claim7.holds Tryd.pinned (.plain (OpenSpec.ofChange fnReadRunesAllSpec)) fnReadRunesAllCard

/-- THE TIED CARD OF 'laws.FnRunes'. -/
def fnRunesCard : Claim7 := { stood := { row := fnRunesRow, standIns := [], harness := (true, "e9e6307e989a150a5a742335eefb2c5aa721505ce1c39000f1a56091d32ba5f2"), looks := true }, kinds := [], alts := [], laidByText := true, laidKinds := [.data, .sentinel, .sentinel, .pinned], laidTests := true, laidLooks := .later }
def FnRunesCardSaid : Prop := Claim7.holds Tryd.pinned (.plain (OpenSpec.ofChange fnRunesSpec)) fnRunesCard

/-- THE TIED CARD OF 'laws.FnExactRunBuilder'. -/
def fnExactRunBuilderCard : Claim7 := { stood := { row := fnExactRunBuilderRow, standIns := [], harness := (true, "e9e6307e989a150a5a742335eefb2c5aa721505ce1c39000f1a56091d32ba5f2"), looks := true }, kinds := [], alts := [], laidByText := true, laidKinds := [.sentinel], laidTests := true, laidLooks := .later }
def FnExactRunBuilderCardSaid : Prop := Claim7.holds Tryd.pinned (.plain (OpenSpec.ofChange fnExactRunBuilderSpec)) fnExactRunBuilderCard

/-- THE TIED CARD OF 'laws.FnScriptBuilder'. -/
def fnScriptBuilderCard : Claim7 := { stood := { row := fnScriptBuilderRow, standIns := [], harness := (true, "e9e6307e989a150a5a742335eefb2c5aa721505ce1c39000f1a56091d32ba5f2"), looks := true }, kinds := [], alts := [], laidByText := true, laidKinds := [.data, .sentinel, .sentinel, .sentinel, .pinned], laidTests := true, laidLooks := .later }
def FnScriptBuilderCardSaid : Prop := Claim7.holds Tryd.pinned (.plain (OpenSpec.ofChange fnScriptBuilderSpec)) fnScriptBuilderCard

/-- THE TIED CARD OF 'laws.FnExactRunBuffer'. -/
def fnExactRunBufferCard : Claim7 := { stood := { row := fnExactRunBufferRow, standIns := [], harness := (true, "e9e6307e989a150a5a742335eefb2c5aa721505ce1c39000f1a56091d32ba5f2"), looks := true }, kinds := [], alts := [], laidByText := true, laidKinds := [.data, .sentinel, .sentinel, .sentinel, .pinned], laidTests := true, laidLooks := .later }
def FnExactRunBufferCardSaid : Prop := Claim7.holds Tryd.pinned (.plain (OpenSpec.ofChange fnExactRunBufferSpec)) fnExactRunBufferCard

/-- THE TIED CARD OF 'laws.FnUnreadByte'. -/
def fnUnreadByteCard : Claim7 := { stood := { row := fnUnreadByteRow, standIns := [], harness := (true, "e9e6307e989a150a5a742335eefb2c5aa721505ce1c39000f1a56091d32ba5f2"), looks := true }, kinds := [], alts := [], laidByText := true, laidKinds := [.data, .sentinel, .sentinel, .sentinel, .pinned], laidTests := true, laidLooks := .later }
def FnUnreadByteCardSaid : Prop := Claim7.holds Tryd.pinned (.plain (OpenSpec.ofChange fnUnreadByteSpec)) fnUnreadByteCard

/-- THE TIED CARD OF 'laws.FnUnreadRune'. -/
def fnUnreadRuneCard : Claim7 := { stood := { row := fnUnreadRuneRow, standIns := [], harness := (true, "e9e6307e989a150a5a742335eefb2c5aa721505ce1c39000f1a56091d32ba5f2"), looks := true }, kinds := [], alts := [], laidByText := true, laidKinds := [.data, .sentinel, .sentinel, .sentinel, .pinned], laidTests := true, laidLooks := .later }
def FnUnreadRuneCardSaid : Prop := Claim7.holds Tryd.pinned (.plain (OpenSpec.ofChange fnUnreadRuneSpec)) fnUnreadRuneCard

/-- THE TIED CARD OF 'laws.FnUnreadTwice'. -/
def fnUnreadTwiceCard : Claim7 := { stood := { row := fnUnreadTwiceRow, standIns := [], harness := (true, "e9e6307e989a150a5a742335eefb2c5aa721505ce1c39000f1a56091d32ba5f2"), looks := true }, kinds := [], alts := [], laidByText := true, laidKinds := [.data, .sentinel, .sentinel, .sentinel, .pinned], laidTests := true, laidLooks := .later }
def FnUnreadTwiceCardSaid : Prop := Claim7.holds Tryd.pinned (.plain (OpenSpec.ofChange fnUnreadTwiceSpec)) fnUnreadTwiceCard

/-- THE SECOND FORM's CARD OF 'laws.FnBuilderRunes'. -/
def fnBuilderRunesUptoCard : Claim7 := { stood := { row := fnBuilderRunesUptoRow, standIns := [], harness := (true, "e9e6307e989a150a5a742335eefb2c5aa721505ce1c39000f1a56091d32ba5f2"), looks := true }, kinds := [], alts := [], laidByText := true, laidKinds := [.sentinel], laidTests := true, laidLooks := .later }
def FnBuilderRunesUptoCardSaid : Prop := Claim7.holds Tryd.pinned (.plain (OpenSpec.upto fnBuilderRunesSpec)) fnBuilderRunesUptoCard

/-- THE SECOND FORM's CARD OF 'laws.FnExactReadFrom'. -/
def fnExactReadFromUptoCard : Claim7 := { stood := { row := fnExactReadFromUptoRow, standIns := [], harness := (true, "e9e6307e989a150a5a742335eefb2c5aa721505ce1c39000f1a56091d32ba5f2"), looks := true }, kinds := [], alts := [], laidByText := true, laidKinds := [.sentinel, .sentinel, .sentinel], laidTests := true, laidLooks := .later }
def FnExactReadFromUptoCardSaid : Prop := Claim7.holds Tryd.pinned (.plain (OpenSpec.upto fnExactReadFromSpec)) fnExactReadFromUptoCard

/-- THE SECOND FORM's CARD OF 'laws.FnReadFromRoad'. -/
def fnReadFromRoadUptoCard : Claim7 := { stood := { row := fnReadFromRoadUptoRow, standIns := [], harness := (true, "e9e6307e989a150a5a742335eefb2c5aa721505ce1c39000f1a56091d32ba5f2"), looks := true }, kinds := [], alts := [], laidByText := true, laidKinds := [.sentinel, .sentinel, .sentinel], laidTests := true, laidLooks := .later }
def FnReadFromRoadUptoCardSaid : Prop := Claim7.holds Tryd.pinned (.plain (OpenSpec.upto fnReadFromRoadSpec)) fnReadFromRoadUptoCard

/-- THE SECOND FORM's CARD OF 'laws.FnExactReadRunes'. -/
def fnExactReadRunesUptoCard : Claim7 := { stood := { row := fnExactReadRunesUptoRow, standIns := [], harness := (true, "e9e6307e989a150a5a742335eefb2c5aa721505ce1c39000f1a56091d32ba5f2"), looks := true }, kinds := [], alts := [], laidByText := true, laidKinds := [.data, .sentinel, .pinned], laidTests := true, laidLooks := .later }
def FnExactReadRunesUptoCardSaid : Prop := Claim7.holds Tryd.pinned (.plain (OpenSpec.upto fnExactReadRunesSpec)) fnExactReadRunesUptoCard

/-- THE SECOND FORM's CARD OF 'laws.FnReadRunesAll'. -/
def fnReadRunesAllUptoCard : Claim7 := { stood := { row := fnReadRunesAllUptoRow, standIns := [], harness := (true, "e9e6307e989a150a5a742335eefb2c5aa721505ce1c39000f1a56091d32ba5f2"), looks := true }, kinds := [], alts := [], laidByText := true, laidKinds := [.data, .sentinel, .sentinel, .pinned], laidTests := true, laidLooks := .later }
def FnReadRunesAllUptoCardSaid : Prop := Claim7.holds Tryd.pinned (.plain (OpenSpec.upto fnReadRunesAllSpec)) fnReadRunesAllUptoCard

/-- THE SECOND FORM's CARD OF 'laws.FnRunes'. -/
def fnRunesUptoCard : Claim7 := { stood := { row := fnRunesUptoRow, standIns := [], harness := (true, "e9e6307e989a150a5a742335eefb2c5aa721505ce1c39000f1a56091d32ba5f2"), looks := true }, kinds := [], alts := [], laidByText := true, laidKinds := [.data, .sentinel, .sentinel, .pinned], laidTests := true, laidLooks := .later }
def FnRunesUptoCardSaid : Prop := Claim7.holds Tryd.pinned (.plain (OpenSpec.upto fnRunesSpec)) fnRunesUptoCard

/-- THE SECOND FORM's CARD OF 'laws.FnExactRunBuilder'. -/
def fnExactRunBuilderUptoCard : Claim7 := { stood := { row := fnExactRunBuilderUptoRow, standIns := [], harness := (true, "e9e6307e989a150a5a742335eefb2c5aa721505ce1c39000f1a56091d32ba5f2"), looks := true }, kinds := [], alts := [], laidByText := true, laidKinds := [.sentinel], laidTests := true, laidLooks := .later }
def FnExactRunBuilderUptoCardSaid : Prop := Claim7.holds Tryd.pinned (.plain (OpenSpec.upto fnExactRunBuilderSpec)) fnExactRunBuilderUptoCard

/-- THE SECOND FORM's CARD OF 'laws.FnScriptBuilder'. -/
def fnScriptBuilderUptoCard : Claim7 := { stood := { row := fnScriptBuilderUptoRow, standIns := [], harness := (true, "e9e6307e989a150a5a742335eefb2c5aa721505ce1c39000f1a56091d32ba5f2"), looks := true }, kinds := [], alts := [], laidByText := true, laidKinds := [.data, .sentinel, .sentinel, .sentinel, .pinned], laidTests := true, laidLooks := .later }
def FnScriptBuilderUptoCardSaid : Prop := Claim7.holds Tryd.pinned (.plain (OpenSpec.upto fnScriptBuilderSpec)) fnScriptBuilderUptoCard

/-- THE SECOND FORM's CARD OF 'laws.FnExactRunBuffer'. -/
def fnExactRunBufferUptoCard : Claim7 := { stood := { row := fnExactRunBufferUptoRow, standIns := [], harness := (true, "e9e6307e989a150a5a742335eefb2c5aa721505ce1c39000f1a56091d32ba5f2"), looks := true }, kinds := [], alts := [], laidByText := true, laidKinds := [.data, .sentinel, .sentinel, .sentinel, .pinned], laidTests := true, laidLooks := .later }
def FnExactRunBufferUptoCardSaid : Prop := Claim7.holds Tryd.pinned (.plain (OpenSpec.upto fnExactRunBufferSpec)) fnExactRunBufferUptoCard

/-- THE SECOND FORM's CARD OF 'laws.FnUnreadByte'. -/
def fnUnreadByteUptoCard : Claim7 := { stood := { row := fnUnreadByteUptoRow, standIns := [], harness := (true, "e9e6307e989a150a5a742335eefb2c5aa721505ce1c39000f1a56091d32ba5f2"), looks := true }, kinds := [], alts := [], laidByText := true, laidKinds := [.data, .sentinel, .sentinel, .sentinel, .pinned], laidTests := true, laidLooks := .later }
def FnUnreadByteUptoCardSaid : Prop := Claim7.holds Tryd.pinned (.plain (OpenSpec.upto fnUnreadByteSpec)) fnUnreadByteUptoCard

/-- THE SECOND FORM's CARD OF 'laws.FnUnreadRune'. -/
def fnUnreadRuneUptoCard : Claim7 := { stood := { row := fnUnreadRuneUptoRow, standIns := [], harness := (true, "e9e6307e989a150a5a742335eefb2c5aa721505ce1c39000f1a56091d32ba5f2"), looks := true }, kinds := [], alts := [], laidByText := true, laidKinds := [.data, .sentinel, .sentinel, .sentinel, .pinned], laidTests := true, laidLooks := .later }
def FnUnreadRuneUptoCardSaid : Prop := Claim7.holds Tryd.pinned (.plain (OpenSpec.upto fnUnreadRuneSpec)) fnUnreadRuneUptoCard

/-- THE SECOND FORM's CARD OF 'laws.FnUnreadTwice'. -/
def fnUnreadTwiceUptoCard : Claim7 := { stood := { row := fnUnreadTwiceUptoRow, standIns := [], harness := (true, "e9e6307e989a150a5a742335eefb2c5aa721505ce1c39000f1a56091d32ba5f2"), looks := true }, kinds := [], alts := [], laidByText := true, laidKinds := [.data, .sentinel, .sentinel, .sentinel, .pinned], laidTests := true, laidLooks := .later }
def FnUnreadTwiceUptoCardSaid : Prop := Claim7.holds Tryd.pinned (.plain (OpenSpec.upto fnUnreadTwiceSpec)) fnUnreadTwiceUptoCard
end Rows
end Go.Proofs.YtnpaokglfkocnaaDoor
