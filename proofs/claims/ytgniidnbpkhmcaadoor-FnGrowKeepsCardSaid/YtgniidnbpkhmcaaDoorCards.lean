/-
  DERIVED. GIVEN WITH THE SEED: THE CARDS: each row of YtgniidnbpkhmcaaDoorRows.lean that lists a variable, with what it lists TIED to the program's text (the seventh form; the later family's looks); each row that meets fmt, with fmt's text TOLD by the authors' own Lean function (tested against real Go, not proved from fmt's source: count such statements apart). THE CARD IS WHAT COUNTS. Prove the row's statement (the work); the ties are given (YtgniidnbpkhmcaaDoorTie.lean); close each card by the builder's one call (the guide's Derived/Test/ToyasCard.lean, 'card_holds'). Laid BY PROGRAM, IN A SANDBOX (cutbox-door.mjs). By AI agents, Wed Nov 11 2026. No macro, syntax, notation, axiom, sorry.
-/
import Derived.Test.YtgniidnbpkhmcaaDoorRows
import GoSem.ClaimSeven
namespace Go.Proofs.YtgniidnbpkhmcaaDoor
namespace Rows

/-- THE TIED CARD OF 'laws.FnBuilderRoads'. -/
def fnBuilderRoadsCard : Claim7 := { stood := { row := fnBuilderRoadsRow, standIns := [], harness := (true, "da8acd998024948ad7c20995dc9e5800f86dbee3320c4a64533b6ab27977c959"), looks := false }, kinds := [], alts := [], laidByText := true, laidKinds := [.sentinel], laidTests := true, laidLooks := .later }
def FnBuilderRoadsCardSaid : Prop := Claim7.holds Tryd.pinned (.plain (OpenSpec.ofChange fnBuilderRoadsSpec)) fnBuilderRoadsCard

/-- THE TIED CARD OF 'laws.FnGrowKeeps'. -/
def fnGrowKeepsCard : Claim7 := { stood := { row := fnGrowKeepsRow, standIns := [], harness := (true, "da8acd998024948ad7c20995dc9e5800f86dbee3320c4a64533b6ab27977c959"), looks := false }, kinds := [], alts := [], laidByText := true, laidKinds := [.sentinel], laidTests := true, laidLooks := .later }
def FnGrowKeepsCardSaid : Prop := Claim7.holds Tryd.pinned (.plain (OpenSpec.ofChange fnGrowKeepsSpec)) fnGrowKeepsCard

/-- THE TIED CARD OF 'laws.FnBuilderRunes'. -/
def fnBuilderRunesCard : Claim7 := { stood := { row := fnBuilderRunesRow, standIns := [], harness := (true, "da8acd998024948ad7c20995dc9e5800f86dbee3320c4a64533b6ab27977c959"), looks := false }, kinds := [], alts := [], laidByText := true, laidKinds := [.sentinel], laidTests := true, laidLooks := .later }
def FnBuilderRunesCardSaid : Prop := Claim7.holds Tryd.pinned (.plain (OpenSpec.ofChange fnBuilderRunesSpec)) fnBuilderRunesCard

/-- THE TIED CARD OF 'laws.FnGrowWrite'. -/
def fnGrowWriteCard : Claim7 := { stood := { row := fnGrowWriteRow, standIns := [], harness := (true, "da8acd998024948ad7c20995dc9e5800f86dbee3320c4a64533b6ab27977c959"), looks := false }, kinds := [], alts := [], laidByText := true, laidKinds := [.sentinel], laidTests := true, laidLooks := .later }
def FnGrowWriteCardSaid : Prop := Claim7.holds Tryd.pinned (.plain (OpenSpec.ofChange fnGrowWriteSpec)) fnGrowWriteCard

/-- THE SECOND FORM's CARD OF 'laws.FnBuilderRoads'. -/
def fnBuilderRoadsUptoCard : Claim7 := { stood := { row := fnBuilderRoadsUptoRow, standIns := [], harness := (true, "da8acd998024948ad7c20995dc9e5800f86dbee3320c4a64533b6ab27977c959"), looks := false }, kinds := [], alts := [], laidByText := true, laidKinds := [.sentinel], laidTests := true, laidLooks := .later }
def FnBuilderRoadsUptoCardSaid : Prop := Claim7.holds Tryd.pinned (.plain (OpenSpec.upto fnBuilderRoadsSpec)) fnBuilderRoadsUptoCard

/-- THE SECOND FORM's CARD OF 'laws.FnGrowKeeps'. -/
def fnGrowKeepsUptoCard : Claim7 := { stood := { row := fnGrowKeepsUptoRow, standIns := [], harness := (true, "da8acd998024948ad7c20995dc9e5800f86dbee3320c4a64533b6ab27977c959"), looks := false }, kinds := [], alts := [], laidByText := true, laidKinds := [.sentinel], laidTests := true, laidLooks := .later }
def FnGrowKeepsUptoCardSaid : Prop := Claim7.holds Tryd.pinned (.plain (OpenSpec.upto fnGrowKeepsSpec)) fnGrowKeepsUptoCard

/-- THE SECOND FORM's CARD OF 'laws.FnBuilderRunes'. -/
def fnBuilderRunesUptoCard : Claim7 := { stood := { row := fnBuilderRunesUptoRow, standIns := [], harness := (true, "da8acd998024948ad7c20995dc9e5800f86dbee3320c4a64533b6ab27977c959"), looks := false }, kinds := [], alts := [], laidByText := true, laidKinds := [.sentinel], laidTests := true, laidLooks := .later }
def FnBuilderRunesUptoCardSaid : Prop := Claim7.holds Tryd.pinned (.plain (OpenSpec.upto fnBuilderRunesSpec)) fnBuilderRunesUptoCard

/-- THE SECOND FORM's CARD OF 'laws.FnGrowWrite'. -/
def fnGrowWriteUptoCard : Claim7 := { stood := { row := fnGrowWriteUptoRow, standIns := [], harness := (true, "da8acd998024948ad7c20995dc9e5800f86dbee3320c4a64533b6ab27977c959"), looks := false }, kinds := [], alts := [], laidByText := true, laidKinds := [.sentinel], laidTests := true, laidLooks := .later }
def FnGrowWriteUptoCardSaid : Prop := Claim7.holds Tryd.pinned (.plain (OpenSpec.upto fnGrowWriteSpec)) fnGrowWriteUptoCard
end Rows
end Go.Proofs.YtgniidnbpkhmcaaDoor
