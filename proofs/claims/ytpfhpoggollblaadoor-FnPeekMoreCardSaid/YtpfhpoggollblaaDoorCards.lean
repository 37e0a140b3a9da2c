/-
  DERIVED. GIVEN WITH THE SEED: THE CARDS: each row of YtpfhpoggollblaaDoorRows.lean that lists a variable, with what it lists TIED to the program's text (the seventh form; the later family's looks); each row that meets fmt, with fmt's text TOLD by the authors' own Lean function (tested against real Go, not proved from fmt's source: count such statements apart). THE CARD IS WHAT COUNTS. Prove the row's statement (the work); the ties are given (YtpfhpoggollblaaDoorTie.lean); close each card by the builder's one call (the guide's Derived/Test/ToyasCard.lean, 'card_holds'). Laid BY PROGRAM, IN A SANDBOX (cutbox-door.mjs). By AI agents, Wed Nov 11 2026. No macro, syntax, notation, axiom, sorry.
-/
import Derived.Test.YtpfhpoggollblaaDoorRows
import GoSem.ClaimSeven
namespace Go.Proofs.YtpfhpoggollblaaDoor
namespace Rows

/-- THE TIED CARD OF 'laws.FnExactChangePeek'. -/
def fnExactChangePeekCard : Claim7 := { stood := { row := fnExactChangePeekRow, standIns := [], harness := (true, "3ebe30723414133e0853248c0cc8267430d9f03ea9e783323d06ed18eeb1e1ac"), looks := true }, kinds := [], alts := [], laidByText := true, laidKinds := [.sentinel], laidTests := true, laidLooks := .later }
def FnExactChangePeekCardSaid : Prop := Claim7.holds Tryd.pinned (.plain (OpenSpec.ofChange fnExactChangePeekSpec)) fnExactChangePeekCard

/-- THE TIED CARD OF 'laws.FnExactPeekChunks'. -/
def fnExactPeekChunksCard : Claim7 := { stood := { row := fnExactPeekChunksRow, standIns := [], harness := (true, "3ebe30723414133e0853248c0cc8267430d9f03ea9e783323d06ed18eeb1e1ac"), looks := true }, kinds := [], alts := [], laidByText := true, laidKinds := [.sentinel], laidTests := true, laidLooks := .later }
def FnExactPeekChunksCardSaid : Prop := Claim7.holds Tryd.pinned (.plain (OpenSpec.ofChange fnExactPeekChunksSpec)) fnExactPeekChunksCard

/-- THE TIED CARD OF 'laws.FnExactPeekFull'. -/
def fnExactPeekFullCard : Claim7 := { stood := { row := fnExactPeekFullRow, standIns := [], harness := (true, "3ebe30723414133e0853248c0cc8267430d9f03ea9e783323d06ed18eeb1e1ac"), looks := true }, kinds := [], alts := [], laidByText := true, laidKinds := [.sentinel], laidTests := true, laidLooks := .later }
def FnExactPeekFullCardSaid : Prop := Claim7.holds Tryd.pinned (.plain (OpenSpec.ofChange fnExactPeekFullSpec)) fnExactPeekFullCard

/-- THE TIED CARD OF 'laws.FnPeekMore'. -/
def fnPeekMoreCard : Claim7 := { stood := { row := fnPeekMoreRow, standIns := [], harness := (true, "3ebe30723414133e0853248c0cc8267430d9f03ea9e783323d06ed18eeb1e1ac"), looks := true }, kinds := [], alts := [], laidByText := true, laidKinds := [.sentinel], laidTests := true, laidLooks := .later }
def FnPeekMoreCardSaid : Prop := Claim7.holds Tryd.pinned (.plain (OpenSpec.ofChange fnPeekMoreSpec)) fnPeekMoreCard

/-- THE TIED CARD OF 'laws.FnChange'. -/
def fnChangeCard : Claim7 := { stood := { row := fnChangeRow, standIns := [], harness := (true, "3ebe30723414133e0853248c0cc8267430d9f03ea9e783323d06ed18eeb1e1ac"), looks := true }, kinds := [], alts := [], laidByText := true, laidKinds := [.sentinel], laidTests := true, laidLooks := .later }
def FnChangeCardSaid : Prop := Claim7.holds Tryd.pinned (.plain (OpenSpec.ofChange fnChangeSpec)) fnChangeCard

/-- THE SECOND FORM's CARD OF 'laws.FnExactChangePeek'. -/
def fnExactChangePeekUptoCard : Claim7 := { stood := { row := fnExactChangePeekUptoRow, standIns := [], harness := (true, "3ebe30723414133e0853248c0cc8267430d9f03ea9e783323d06ed18eeb1e1ac"), looks := true }, kinds := [], alts := [], laidByText := true, laidKinds := [.sentinel], laidTests := true, laidLooks := .later }
def FnExactChangePeekUptoCardSaid : Prop := Claim7.holds Tryd.pinned (.plain (OpenSpec.upto fnExactChangePeekSpec)) fnExactChangePeekUptoCard

/-- THE SECOND FORM's CARD OF 'laws.FnExactPeekChunks'. -/
def fnExactPeekChunksUptoCard : Claim7 := { stood := { row := fnExactPeekChunksUptoRow, standIns := [], harness := (true, "3ebe30723414133e0853248c0cc8267430d9f03ea9e783323d06ed18eeb1e1ac"), looks := true }, kinds := [], alts := [], laidByText := true, laidKinds := [.sentinel], laidTests := true, laidLooks := .later }
def FnExactPeekChunksUptoCardSaid : Prop := Claim7.holds Tryd.pinned (.plain (OpenSpec.upto fnExactPeekChunksSpec)) fnExactPeekChunksUptoCard

/-- THE SECOND FORM's CARD OF 'laws.FnExactPeekFull'. -/
def fnExactPeekFullUptoCard : Claim7 := { stood := { row := fnExactPeekFullUptoRow, standIns := [], harness := (true, "3ebe30723414133e0853248c0cc8267430d9f03ea9e783323d06ed18eeb1e1ac"), looks := true }, kinds := [], alts := [], laidByText := true, laidKinds := [.sentinel], laidTests := true, laidLooks := .later }
def FnExactPeekFullUptoCardSaid : Prop := Claim7.holds Tryd.pinned (.plain (OpenSpec.upto fnExactPeekFullSpec)) fnExactPeekFullUptoCard

/-- THE SECOND FORM's CARD OF 'laws.FnPeekMore'. -/
def fnPeekMoreUptoCard : Claim7 := { stood := { row := fnPeekMoreUptoRow, standIns := [], harness := (true, "3ebe30723414133e0853248c0cc8267430d9f03ea9e783323d06ed18eeb1e1ac"), looks := true }, kinds := [], alts := [], laidByText := true, laidKinds := [.sentinel], laidTests := true, laidLooks := .later }
def FnPeekMoreUptoCardSaid : Prop := Claim7.holds Tryd.pinned (.plain (OpenSpec.upto fnPeekMoreSpec)) fnPeekMoreUptoCard

/-- THE SECOND FORM's CARD OF 'laws.FnChange'. -/
def fnChangeUptoCard : Claim7 := { stood := { row := fnChangeUptoRow, standIns := [], harness := (true, "3ebe30723414133e0853248c0cc8267430d9f03ea9e783323d06ed18eeb1e1ac"), looks := true }, kinds := [], alts := [], laidByText := true, laidKinds := [.sentinel], laidTests := true, laidLooks := .later }
def FnChangeUptoCardSaid : Prop := Claim7.holds Tryd.pinned (.plain (OpenSpec.upto fnChangeSpec)) fnChangeUptoCard
end Rows
end Go.Proofs.YtpfhpoggollblaaDoor
