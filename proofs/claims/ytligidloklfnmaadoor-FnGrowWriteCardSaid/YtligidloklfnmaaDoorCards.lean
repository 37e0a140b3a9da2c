/-
  DERIVED. GIVEN WITH THE SEED: THE CARDS: each row of YtligidloklfnmaaDoorRows.lean that lists a variable, with what it lists TIED to the program's text (the seventh form; the later family's looks); each row that meets fmt, with fmt's text TOLD by the authors' own Lean function (tested against real Go, not proved from fmt's source: count such statements apart). THE CARD IS WHAT COUNTS. Prove the row's statement (the work); the ties are given (YtligidloklfnmaaDoorTie.lean); close each card by the builder's one call (the guide's Derived/Test/ToyasCard.lean, 'card_holds'). Laid BY PROGRAM, IN A SANDBOX (cutbox-door.mjs). By AI agents, Wed Nov 11 2026. No macro, syntax, notation, axiom, sorry.
-/
import Derived.Test.YtligidloklfnmaaDoorRows
import GoSem.ClaimSeven
namespace Go.Proofs.YtligidloklfnmaaDoor
namespace Rows

/-- THE TIED CARD OF 'laws.FnGrowWrite'. -/
def fnGrowWriteCard : Claim7 := { stood := { row := fnGrowWriteRow, standIns := [], harness := (true, "a560b57e79764b5ef1e8c080252f33afdaf15c818dc2894fc76fc2f9eb107412"), looks := true }, kinds := [], alts := [], laidByText := true, laidKinds := [.sentinel], laidTests := true, laidLooks := .later }
def FnGrowWriteCardSaid : Prop := Claim7.holds Tryd.pinned (.plain (OpenSpec.ofChange fnGrowWriteSpec)) fnGrowWriteCard

/-- THE TIED CARD OF 'laws.FnExactReadRunes'. -/
def fnExactReadRunesCard : Claim7 := { stood := { row := fnExactReadRunesRow, standIns := [], harness := (true, "a560b57e79764b5ef1e8c080252f33afdaf15c818dc2894fc76fc2f9eb107412"), looks := true }, kinds := [], alts := [], laidByText := true, laidKinds := [.data, .sentinel, .pinned], laidTests := true, laidLooks := .later }
def FnExactReadRunesCardSaid : Prop := Claim7.holds Tryd.pinned (.plain (OpenSpec.ofChange fnExactReadRunesSpec)) fnExactReadRunesCard

/-- THE TIED CARD OF 'laws.FnReadRunesAll'. -/
def fnReadRunesAllCard : Claim7 := { stood := { row := fnReadRunesAllRow, standIns := [], harness := (true, "a560b57e79764b5ef1e8c080252f33afdaf15c818dc2894fc76fc2f9eb107412"), looks := true }, kinds := [], alts := [], laidByText := true, laidKinds := [.data, .sentinel, .sentinel, .pinned], laidTests := true, laidLooks := .later }
def FnReadRunesAllCardSaid : Prop := Claim7.holds Tryd.pinned (.plain (OpenSpec.ofChange fnReadRunesAllSpec)) fnReadRunesAllCard

/-- THE TIED CARD OF 'laws.FnRunes'. -/
def fnRunesCard : Claim7 := { stood := { row := fnRunesRow, standIns := [], harness := (true, "a560b57e79764b5ef1e8c080252f33afdaf15c818dc2894fc76fc2f9eb107412"), looks := true }, kinds := [], alts := [], laidByText := true, laidKinds := [.data, .sentinel, .sentinel, .pinned], laidTests := true, laidLooks := .later }
def FnRunesCardSaid : Prop := Claim7.holds Tryd.pinned (.plain (OpenSpec.ofChange fnRunesSpec)) fnRunesCard

/-- THE TIED CARD OF 'laws.FnExactRunBuilder'. -/
def fnExactRunBuilderCard : Claim7 := { stood := { row := fnExactRunBuilderRow, standIns := [], harness := (true, "a560b57e79764b5ef1e8c080252f33afdaf15c818dc2894fc76fc2f9eb107412"), looks := true }, kinds := [], alts := [], laidByText := true, laidKinds := [.sentinel], laidTests := true, laidLooks := .later }
def FnExactRunBuilderCardSaid : Prop := Claim7.holds Tryd.pinned (.plain (OpenSpec.ofChange fnExactRunBuilderSpec)) fnExactRunBuilderCard

/-- THE SECOND FORM's CARD OF 'laws.FnGrowWrite'. -/
def fnGrowWriteUptoCard : Claim7 := { stood := { row := fnGrowWriteUptoRow, standIns := [], harness := (true, "a560b57e79764b5ef1e8c080252f33afdaf15c818dc2894fc76fc2f9eb107412"), looks := true }, kinds := [], alts := [], laidByText := true, laidKinds := [.sentinel], laidTests := true, laidLooks := .later }
def FnGrowWriteUptoCardSaid : Prop := Claim7.holds Tryd.pinned (.plain (OpenSpec.upto fnGrowWriteSpec)) fnGrowWriteUptoCard

/-- THE SECOND FORM's CARD OF 'laws.FnExactReadRunes'. -/
def fnExactReadRunesUptoCard : Claim7 := { stood := { row := fnExactReadRunesUptoRow, standIns := [], harness := (true, "a560b57e79764b5ef1e8c080252f33afdaf15c818dc2894fc76fc2f9eb107412"), looks := true }, kinds := [], alts := [], laidByText := true, laidKinds := [.data, .sentinel, .pinned], laidTests := true, laidLooks := .later }
def FnExactReadRunesUptoCardSaid : Prop := Claim7.holds Tryd.pinned (.plain (OpenSpec.upto fnExactReadRunesSpec)) fnExactReadRunesUptoCard

/-- THE SECOND FORM's CARD OF 'laws.FnReadRunesAll'. -/
def fnReadRunesAllUptoCard : Claim7 := { stood := { row := fnReadRunesAllUptoRow, standIns := [], harness := (true, "a560b57e79764b5ef1e8c080252f33afdaf15c818dc2894fc76fc2f9eb107412"), looks := true }, kinds := [], alts := [], laidByText := true, laidKinds := [.data, .sentinel, .sentinel, .pinned], laidTests := true, laidLooks := .later }
def FnReadRunesAllUptoCardSaid : Prop := Claim7.holds Tryd.pinned (.plain (OpenSpec.upto fnReadRunesAllSpec)) fnReadRunesAllUptoCard

/-- THE SECOND FORM's CARD OF 'laws.FnRunes'. -/
def fnRunesUptoCard : Claim7 := { stood := { row := fnRunesUptoRow, standIns := [], harness := (true, "a560b57e79764b5ef1e8c080252f33afdaf15c818dc2894fc76fc2f9eb107412"), looks := true }, kinds := [], alts := [], laidByText := true, laidKinds := [.data, .sentinel, .sentinel, .pinned], laidTests := true, laidLooks := .later }
def FnRunesUptoCardSaid : Prop := Claim7.holds Tryd.pinned (.plain (OpenSpec.upto fnRunesSpec)) fnRunesUptoCard

/-- THE SECOND FORM's CARD OF 'laws.FnExactRunBuilder'. -/
def fnExactRunBuilderUptoCard : Claim7 := { stood := { row := fnExactRunBuilderUptoRow, standIns := [], harness := (true, "a560b57e79764b5ef1e8c080252f33afdaf15c818dc2894fc76fc2f9eb107412"), looks := true }, kinds := [], alts := [], laidByText := true, laidKinds := [.sentinel], laidTests := true, laidLooks := .later }
def FnExactRunBuilderUptoCardSaid : Prop := Claim7.holds Tryd.pinned (.plain (OpenSpec.upto fnExactRunBuilderSpec)) fnExactRunBuilderUptoCard
end Rows
end Go.Proofs.YtligidloklfnmaaDoor
