/-
  DERIVED. GIVEN WITH THE SEED: THE CARDS: each row of YtnpkgmgedgcjmaaGreatDoorRows.lean that lists a variable, with what it lists TIED to the program's text (the seventh form; the later family's looks); each row that meets fmt, with fmt's text TOLD by the authors' own Lean function (tested against real Go, not proved from fmt's source: count such statements apart). THE CARD IS WHAT COUNTS. Prove the row's statement (the work); the ties are given (YtnpkgmgedgcjmaaGreatDoorTie.lean); close each card by the builder's one call (the guide's Derived/Test/ToyasCard.lean, 'card_holds'). Laid BY PROGRAM, IN A SANDBOX (cutbox-door.mjs). By AI agents, Wed Nov 11 2026. No macro, syntax, notation, axiom, sorry.
-/
import Derived.Test.YtnpkgmgedgcjmaaGreatDoorRows
import GoSem.ClaimSeven
namespace Go.Proofs.YtnpkgmgedgcjmaaGreatDoor
namespace Rows

/-- THE TIED CARD OF 'laws.FnAncillary'. -/
def fnAncillaryCard : Claim7 := { stood := { row := fnAncillaryRow, standIns := [], harness := (true, "00095dfe53ed99f714c73aa43493900519d4ece601e442c463084a26f131873c"), looks := true }, kinds := [], alts := [], laidByText := true, laidKinds := [.handle, .sentinel, .sentinel, .sentinel, .sentinel, .data, .sentinel, .sentinel, .data, .data], laidTests := true, laidLooks := .later }
def FnAncillaryCardSaid : Prop := Claim7.holds Tryz.pinned (.plain (OpenSpec.ofChange fnAncillarySpec)) fnAncillaryCard

/-- THE TIED CARD OF 'laws.FnBehind'. -/
def fnBehindCard : Claim7 := { stood := { row := fnBehindRow, standIns := [], harness := (true, "00095dfe53ed99f714c73aa43493900519d4ece601e442c463084a26f131873c"), looks := true }, kinds := [], alts := [], laidByText := true, laidKinds := [.handle, .sentinel, .sentinel, .sentinel, .sentinel, .data, .sentinel, .sentinel, .data, .data], laidTests := true, laidLooks := .later }
def FnBehindCardSaid : Prop := Claim7.holds Tryz.pinned (.plain (OpenSpec.ofChange fnBehindSpec)) fnBehindCard

/-- THE TIED CARD OF 'laws.FnBent'. -/
def fnBentCard : Claim7 := { stood := { row := fnBentRow, standIns := [], harness := (true, "00095dfe53ed99f714c73aa43493900519d4ece601e442c463084a26f131873c"), looks := true }, kinds := [], alts := [], laidByText := true, laidKinds := [.handle, .sentinel, .sentinel, .sentinel, .sentinel, .data, .sentinel, .sentinel, .data, .data], laidTests := true, laidLooks := .later }
def FnBentCardSaid : Prop := Claim7.holds Tryz.pinned (.plain (OpenSpec.ofChange fnBentSpec)) fnBentCard

/-- THE TIED CARD OF 'laws.FnCut'. -/
def fnCutCard : Claim7 := { stood := { row := fnCutRow, standIns := [], harness := (true, "00095dfe53ed99f714c73aa43493900519d4ece601e442c463084a26f131873c"), looks := true }, kinds := [], alts := [], laidByText := true, laidKinds := [.handle, .sentinel, .sentinel, .sentinel, .sentinel, .data, .sentinel, .sentinel, .data, .data], laidTests := true, laidLooks := .later }
def FnCutCardSaid : Prop := Claim7.holds Tryz.pinned (.plain (OpenSpec.ofChange fnCutSpec)) fnCutCard

/-- THE TIED CARD OF 'laws.FnDecode'. -/
def fnDecodeCard : Claim7 := { stood := { row := fnDecodeRow, standIns := [], harness := (true, "00095dfe53ed99f714c73aa43493900519d4ece601e442c463084a26f131873c"), looks := true }, kinds := [], alts := [], laidByText := true, laidKinds := [.handle, .sentinel, .sentinel, .sentinel, .sentinel, .data, .sentinel, .sentinel, .data, .data], laidTests := true, laidLooks := .later }
def FnDecodeCardSaid : Prop := Claim7.holds Tryz.pinned (.plain (OpenSpec.ofChange fnDecodeSpec)) fnDecodeCard

/-- THE TIED CARD OF 'laws.FnFilters'. -/
def fnFiltersCard : Claim7 := { stood := { row := fnFiltersRow, standIns := [], harness := (true, "00095dfe53ed99f714c73aa43493900519d4ece601e442c463084a26f131873c"), looks := true }, kinds := [], alts := [], laidByText := true, laidKinds := [.handle, .sentinel, .sentinel, .sentinel, .sentinel, .data, .sentinel, .sentinel, .data, .data], laidTests := true, laidLooks := .later }
def FnFiltersCardSaid : Prop := Claim7.holds Tryz.pinned (.plain (OpenSpec.ofChange fnFiltersSpec)) fnFiltersCard

/-- THE TIED CARD OF 'laws.FnKind'. -/
def fnKindCard : Claim7 := { stood := { row := fnKindRow, standIns := [], harness := (true, "00095dfe53ed99f714c73aa43493900519d4ece601e442c463084a26f131873c"), looks := true }, kinds := [], alts := [], laidByText := true, laidKinds := [.handle, .sentinel, .sentinel, .sentinel, .sentinel, .data, .sentinel, .sentinel, .data, .data], laidTests := true, laidLooks := .later }
def FnKindCardSaid : Prop := Claim7.holds Tryz.pinned (.plain (OpenSpec.ofChange fnKindSpec)) fnKindCard

/-- THE TIED CARD OF 'laws.FnLaced'. -/
def fnLacedCard : Claim7 := { stood := { row := fnLacedRow, standIns := [], harness := (true, "00095dfe53ed99f714c73aa43493900519d4ece601e442c463084a26f131873c"), looks := true }, kinds := [], alts := [], laidByText := true, laidKinds := [.handle, .sentinel, .sentinel, .sentinel, .sentinel, .data, .sentinel, .sentinel, .data, .data], laidTests := true, laidLooks := .later }
def FnLacedCardSaid : Prop := Claim7.holds Tryz.pinned (.plain (OpenSpec.ofChange fnLacedSpec)) fnLacedCard

/-- THE TIED CARD OF 'laws.FnMade'. -/
def fnMadeCard : Claim7 := { stood := { row := fnMadeRow, standIns := [], harness := (true, "00095dfe53ed99f714c73aa43493900519d4ece601e442c463084a26f131873c"), looks := true }, kinds := [], alts := [], laidByText := true, laidKinds := [.handle, .sentinel, .sentinel, .sentinel, .sentinel, .data, .sentinel, .sentinel, .data, .data], laidTests := true, laidLooks := .later }
def FnMadeCardSaid : Prop := Claim7.holds Tryz.pinned (.plain (OpenSpec.ofChange fnMadeSpec)) fnMadeCard

/-- THE TIED CARD OF 'laws.FnPieces'. -/
def fnPiecesCard : Claim7 := { stood := { row := fnPiecesRow, standIns := [], harness := (true, "00095dfe53ed99f714c73aa43493900519d4ece601e442c463084a26f131873c"), looks := true }, kinds := [], alts := [], laidByText := true, laidKinds := [.handle, .sentinel, .sentinel, .sentinel, .sentinel, .data, .sentinel, .sentinel, .data, .data], laidTests := true, laidLooks := .later }
def FnPiecesCardSaid : Prop := Claim7.holds Tryz.pinned (.plain (OpenSpec.ofChange fnPiecesSpec)) fnPiecesCard

/-- THE TIED CARD OF 'laws.FnConfig'. -/
def fnConfigCard : Claim7 := { stood := { row := fnConfigRow, standIns := [], harness := (true, "00095dfe53ed99f714c73aa43493900519d4ece601e442c463084a26f131873c"), looks := true }, kinds := [], alts := [], laidByText := true, laidKinds := [.handle, .sentinel, .sentinel, .sentinel, .sentinel, .data, .sentinel, .sentinel, .data, .data], laidTests := true, laidLooks := .later }
def FnConfigCardSaid : Prop := Claim7.holds Tryz.pinned (.plain (OpenSpec.ofChange fnConfigSpec)) fnConfigCard

/-- THE TIED CARD OF 'laws.FnConfigEarly'. -/
def fnConfigEarlyCard : Claim7 := { stood := { row := fnConfigEarlyRow, standIns := [], harness := (true, "00095dfe53ed99f714c73aa43493900519d4ece601e442c463084a26f131873c"), looks := true }, kinds := [], alts := [], laidByText := true, laidKinds := [.handle, .sentinel, .sentinel, .sentinel, .sentinel, .data, .sentinel, .sentinel, .data, .data], laidTests := true, laidLooks := .later }
def FnConfigEarlyCardSaid : Prop := Claim7.holds Tryz.pinned (.plain (OpenSpec.ofChange fnConfigEarlySpec)) fnConfigEarlyCard

/-- THE TIED CARD OF 'laws.FnConfigAgrees'. -/
def fnConfigAgreesCard : Claim7 := { stood := { row := fnConfigAgreesRow, standIns := [], harness := (true, "00095dfe53ed99f714c73aa43493900519d4ece601e442c463084a26f131873c"), looks := true }, kinds := [], alts := [], laidByText := true, laidKinds := [.handle, .sentinel, .sentinel, .sentinel, .sentinel, .data, .sentinel, .sentinel, .data, .data], laidTests := true, laidLooks := .later }
def FnConfigAgreesCardSaid : Prop := Claim7.holds Tryz.pinned (.plain (OpenSpec.ofChange fnConfigAgreesSpec)) fnConfigAgreesCard

/-- THE TIED CARD OF 'laws.FnSignature'. -/
def fnSignatureCard : Claim7 := { stood := { row := fnSignatureRow, standIns := [], harness := (true, "00095dfe53ed99f714c73aa43493900519d4ece601e442c463084a26f131873c"), looks := true }, kinds := [], alts := [], laidByText := true, laidKinds := [.handle, .sentinel, .sentinel, .sentinel, .sentinel, .data, .sentinel, .sentinel, .data, .data], laidTests := true, laidLooks := .later }
def FnSignatureCardSaid : Prop := Claim7.holds Tryz.pinned (.plain (OpenSpec.ofChange fnSignatureSpec)) fnSignatureCard

/-- THE SECOND FORM's CARD OF 'laws.FnAncillary'. -/
def fnAncillaryUptoCard : Claim7 := { stood := { row := fnAncillaryUptoRow, standIns := [], harness := (true, "00095dfe53ed99f714c73aa43493900519d4ece601e442c463084a26f131873c"), looks := true }, kinds := [], alts := [], laidByText := true, laidKinds := [.handle, .sentinel, .sentinel, .sentinel, .sentinel, .data, .sentinel, .sentinel, .data, .data], laidTests := true, laidLooks := .later }
def FnAncillaryUptoCardSaid : Prop := Claim7.holds Tryz.pinned (.plain (OpenSpec.upto fnAncillarySpec)) fnAncillaryUptoCard

/-- THE SECOND FORM's CARD OF 'laws.FnBehind'. -/
def fnBehindUptoCard : Claim7 := { stood := { row := fnBehindUptoRow, standIns := [], harness := (true, "00095dfe53ed99f714c73aa43493900519d4ece601e442c463084a26f131873c"), looks := true }, kinds := [], alts := [], laidByText := true, laidKinds := [.handle, .sentinel, .sentinel, .sentinel, .sentinel, .data, .sentinel, .sentinel, .data, .data], laidTests := true, laidLooks := .later }
def FnBehindUptoCardSaid : Prop := Claim7.holds Tryz.pinned (.plain (OpenSpec.upto fnBehindSpec)) fnBehindUptoCard

/-- THE SECOND FORM's CARD OF 'laws.FnBent'. -/
def fnBentUptoCard : Claim7 := { stood := { row := fnBentUptoRow, standIns := [], harness := (true, "00095dfe53ed99f714c73aa43493900519d4ece601e442c463084a26f131873c"), looks := true }, kinds := [], alts := [], laidByText := true, laidKinds := [.handle, .sentinel, .sentinel, .sentinel, .sentinel, .data, .sentinel, .sentinel, .data, .data], laidTests := true, laidLooks := .later }
def FnBentUptoCardSaid : Prop := Claim7.holds Tryz.pinned (.plain (OpenSpec.upto fnBentSpec)) fnBentUptoCard

/-- THE SECOND FORM's CARD OF 'laws.FnCut'. -/
def fnCutUptoCard : Claim7 := { stood := { row := fnCutUptoRow, standIns := [], harness := (true, "00095dfe53ed99f714c73aa43493900519d4ece601e442c463084a26f131873c"), looks := true }, kinds := [], alts := [], laidByText := true, laidKinds := [.handle, .sentinel, .sentinel, .sentinel, .sentinel, .data, .sentinel, .sentinel, .data, .data], laidTests := true, laidLooks := .later }
def FnCutUptoCardSaid : Prop := Claim7.holds Tryz.pinned (.plain (OpenSpec.upto fnCutSpec)) fnCutUptoCard

/-- THE SECOND FORM's CARD OF 'laws.FnDecode'. -/
def fnDecodeUptoCard : Claim7 := { stood := { row := fnDecodeUptoRow, standIns := [], harness := (true, "00095dfe53ed99f714c73aa43493900519d4ece601e442c463084a26f131873c"), looks := true }, kinds := [], alts := [], laidByText := true, laidKinds := [.handle, .sentinel, .sentinel, .sentinel, .sentinel, .data, .sentinel, .sentinel, .data, .data], laidTests := true, laidLooks := .later }
def FnDecodeUptoCardSaid : Prop := Claim7.holds Tryz.pinned (.plain (OpenSpec.upto fnDecodeSpec)) fnDecodeUptoCard

/-- THE SECOND FORM's CARD OF 'laws.FnFilters'. -/
def fnFiltersUptoCard : Claim7 := { stood := { row := fnFiltersUptoRow, standIns := [], harness := (true, "00095dfe53ed99f714c73aa43493900519d4ece601e442c463084a26f131873c"), looks := true }, kinds := [], alts := [], laidByText := true, laidKinds := [.handle, .sentinel, .sentinel, .sentinel, .sentinel, .data, .sentinel, .sentinel, .data, .data], laidTests := true, laidLooks := .later }
def FnFiltersUptoCardSaid : Prop := Claim7.holds Tryz.pinned (.plain (OpenSpec.upto fnFiltersSpec)) fnFiltersUptoCard

/-- THE SECOND FORM's CARD OF 'laws.FnKind'. -/
def fnKindUptoCard : Claim7 := { stood := { row := fnKindUptoRow, standIns := [], harness := (true, "00095dfe53ed99f714c73aa43493900519d4ece601e442c463084a26f131873c"), looks := true }, kinds := [], alts := [], laidByText := true, laidKinds := [.handle, .sentinel, .sentinel, .sentinel, .sentinel, .data, .sentinel, .sentinel, .data, .data], laidTests := true, laidLooks := .later }
def FnKindUptoCardSaid : Prop := Claim7.holds Tryz.pinned (.plain (OpenSpec.upto fnKindSpec)) fnKindUptoCard

/-- THE SECOND FORM's CARD OF 'laws.FnLaced'. -/
def fnLacedUptoCard : Claim7 := { stood := { row := fnLacedUptoRow, standIns := [], harness := (true, "00095dfe53ed99f714c73aa43493900519d4ece601e442c463084a26f131873c"), looks := true }, kinds := [], alts := [], laidByText := true, laidKinds := [.handle, .sentinel, .sentinel, .sentinel, .sentinel, .data, .sentinel, .sentinel, .data, .data], laidTests := true, laidLooks := .later }
def FnLacedUptoCardSaid : Prop := Claim7.holds Tryz.pinned (.plain (OpenSpec.upto fnLacedSpec)) fnLacedUptoCard

/-- THE SECOND FORM's CARD OF 'laws.FnMade'. -/
def fnMadeUptoCard : Claim7 := { stood := { row := fnMadeUptoRow, standIns := [], harness := (true, "00095dfe53ed99f714c73aa43493900519d4ece601e442c463084a26f131873c"), looks := true }, kinds := [], alts := [], laidByText := true, laidKinds := [.handle, .sentinel, .sentinel, .sentinel, .sentinel, .data, .sentinel, .sentinel, .data, .data], laidTests := true, laidLooks := .later }
def FnMadeUptoCardSaid : Prop := Claim7.holds Tryz.pinned (.plain (OpenSpec.upto fnMadeSpec)) fnMadeUptoCard

/-- THE SECOND FORM's CARD OF 'laws.FnPieces'. -/
def fnPiecesUptoCard : Claim7 := { stood := { row := fnPiecesUptoRow, standIns := [], harness := (true, "00095dfe53ed99f714c73aa43493900519d4ece601e442c463084a26f131873c"), looks := true }, kinds := [], alts := [], laidByText := true, laidKinds := [.handle, .sentinel, .sentinel, .sentinel, .sentinel, .data, .sentinel, .sentinel, .data, .data], laidTests := true, laidLooks := .later }
def FnPiecesUptoCardSaid : Prop := Claim7.holds Tryz.pinned (.plain (OpenSpec.upto fnPiecesSpec)) fnPiecesUptoCard

/-- THE SECOND FORM's CARD OF 'laws.FnConfig'. -/
def fnConfigUptoCard : Claim7 := { stood := { row := fnConfigUptoRow, standIns := [], harness := (true, "00095dfe53ed99f714c73aa43493900519d4ece601e442c463084a26f131873c"), looks := true }, kinds := [], alts := [], laidByText := true, laidKinds := [.handle, .sentinel, .sentinel, .sentinel, .sentinel, .data, .sentinel, .sentinel, .data, .data], laidTests := true, laidLooks := .later }
def FnConfigUptoCardSaid : Prop := Claim7.holds Tryz.pinned (.plain (OpenSpec.upto fnConfigSpec)) fnConfigUptoCard

/-- THE SECOND FORM's CARD OF 'laws.FnConfigEarly'. -/
def fnConfigEarlyUptoCard : Claim7 := { stood := { row := fnConfigEarlyUptoRow, standIns := [], harness := (true, "00095dfe53ed99f714c73aa43493900519d4ece601e442c463084a26f131873c"), looks := true }, kinds := [], alts := [], laidByText := true, laidKinds := [.handle, .sentinel, .sentinel, .sentinel, .sentinel, .data, .sentinel, .sentinel, .data, .data], laidTests := true, laidLooks := .later }
def FnConfigEarlyUptoCardSaid : Prop := Claim7.holds Tryz.pinned (.plain (OpenSpec.upto fnConfigEarlySpec)) fnConfigEarlyUptoCard

/-- THE SECOND FORM's CARD OF 'laws.FnConfigAgrees'. -/
def fnConfigAgreesUptoCard : Claim7 := { stood := { row := fnConfigAgreesUptoRow, standIns := [], harness := (true, "00095dfe53ed99f714c73aa43493900519d4ece601e442c463084a26f131873c"), looks := true }, kinds := [], alts := [], laidByText := true, laidKinds := [.handle, .sentinel, .sentinel, .sentinel, .sentinel, .data, .sentinel, .sentinel, .data, .data], laidTests := true, laidLooks := .later }
def FnConfigAgreesUptoCardSaid : Prop := Claim7.holds Tryz.pinned (.plain (OpenSpec.upto fnConfigAgreesSpec)) fnConfigAgreesUptoCard

/-- THE SECOND FORM's CARD OF 'laws.FnSignature'. -/
def fnSignatureUptoCard : Claim7 := { stood := { row := fnSignatureUptoRow, standIns := [], harness := (true, "00095dfe53ed99f714c73aa43493900519d4ece601e442c463084a26f131873c"), looks := true }, kinds := [], alts := [], laidByText := true, laidKinds := [.handle, .sentinel, .sentinel, .sentinel, .sentinel, .data, .sentinel, .sentinel, .data, .data], laidTests := true, laidLooks := .later }
def FnSignatureUptoCardSaid : Prop := Claim7.holds Tryz.pinned (.plain (OpenSpec.upto fnSignatureSpec)) fnSignatureUptoCard
end Rows
end Go.Proofs.YtnpkgmgedgcjmaaGreatDoor
