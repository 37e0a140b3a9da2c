/-
  DERIVED. GIVEN WITH THE SEED: THE CARDS: each row of YtoakicngghobcaaDoorRows.lean that lists a variable, with what it lists TIED to the program's text (the seventh form; the later family's looks); each row that meets fmt, with fmt's text TOLD by the authors' own Lean function (tested against real Go, not proved from fmt's source: count such statements apart). THE CARD IS WHAT COUNTS. Prove the row's statement (the work); the ties are given (YtoakicngghobcaaDoorTie.lean); close each card by the builder's one call (the guide's Derived/Test/ToyasCard.lean, 'card_holds'). Laid BY PROGRAM, IN A SANDBOX (cutbox-door.mjs). By AI agents, Wed Nov 11 2026. No macro, syntax, notation, axiom, sorry.
-/
import Derived.Test.YtoakicngghobcaaDoorRows
import GoSem.ClaimSeven
namespace Go.Proofs.YtoakicngghobcaaDoor
namespace Rows

/-- THE TIED CARD OF 'laws.FnExactWriteTo'. -/
def fnExactWriteToCard : Claim7 := { stood := { row := fnExactWriteToRow, standIns := [], harness := (true, "8ca290838392bf69674a3a4b54719bb4785afaf75d94255c16a4df7f4087f1e4"), looks := true }, kinds := [], alts := [], laidByText := true, laidKinds := [.sentinel], laidTests := true, laidLooks := .later }
def FnExactWriteToCardSaid : Prop := Claim7.holds Tryd.pinned (.plain (OpenSpec.ofChange fnExactWriteToSpec)) fnExactWriteToCard

/-- THE SECOND FORM's CARD OF 'laws.FnExactWriteTo'. -/
def fnExactWriteToUptoCard : Claim7 := { stood := { row := fnExactWriteToUptoRow, standIns := [], harness := (true, "8ca290838392bf69674a3a4b54719bb4785afaf75d94255c16a4df7f4087f1e4"), looks := true }, kinds := [], alts := [], laidByText := true, laidKinds := [.sentinel], laidTests := true, laidLooks := .later }
def FnExactWriteToUptoCardSaid : Prop := Claim7.holds Tryd.pinned (.plain (OpenSpec.upto fnExactWriteToSpec)) fnExactWriteToUptoCard
end Rows
end Go.Proofs.YtoakicngghobcaaDoor
