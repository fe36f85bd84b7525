/-
  DERIVED. GIVEN WITH THE SEED: THE CARDS: each row of YtmaffdhcmdhjfaaGreatDoorRows.lean that lists a variable, with what it lists TIED to the program's text (the seventh form; the later family's looks); each row that meets fmt, with fmt's text TOLD by the authors' own Lean function (tested against real Go, not proved from fmt's source: count such statements apart). THE CARD IS WHAT COUNTS. Prove the row's statement (the work); the ties are given (YtmaffdhcmdhjfaaGreatDoorTie.lean); close each card by the builder's one call (the guide's Derived/Test/ToyasCard.lean, 'card_holds'). Laid BY PROGRAM, IN A SANDBOX (cutbox-door.mjs). By AI agents, Wed Nov 11 2026. No macro, syntax, notation, axiom, sorry.
-/
import Derived.Test.YtmaffdhcmdhjfaaGreatDoorRows
import GoSem.ClaimSeven
namespace Go.Proofs.YtmaffdhcmdhjfaaGreatDoor
namespace Rows

/-- THE TIED CARD OF 'laws.FnFields'. -/
def fnFieldsCard : Claim7 := { stood := { row := fnFieldsRow, standIns := [], harness := (true, "ab0e5451898ba7af3fddb4ece5cff62e140668e4d854a8b8f5ee08cd0b170de1"), looks := true }, kinds := [], alts := [], laidByText := true, laidKinds := [.data, .data, .data, .sentinel, .sentinel, .sentinel], laidTests := true, laidLooks := .later }
def FnFieldsCardSaid : Prop := Claim7.holds Tryz.pinned (.plain (OpenSpec.ofChange fnFieldsSpec)) fnFieldsCard

/-- THE TIED CARD OF 'laws.FnTrimmed'. -/
def fnTrimmedCard : Claim7 := { stood := { row := fnTrimmedRow, standIns := [], harness := (true, "ab0e5451898ba7af3fddb4ece5cff62e140668e4d854a8b8f5ee08cd0b170de1"), looks := true }, kinds := [], alts := [], laidByText := true, laidKinds := [.data, .data, .data, .sentinel, .sentinel, .sentinel], laidTests := true, laidLooks := .later }
def FnTrimmedCardSaid : Prop := Claim7.holds Tryz.pinned (.plain (OpenSpec.ofChange fnTrimmedSpec)) fnTrimmedCard

/-- THE TIED CARD OF 'laws.FnDescribed'. -/
def fnDescribedCard : Claim7 := { stood := { row := fnDescribedRow, standIns := [], harness := (true, "ab0e5451898ba7af3fddb4ece5cff62e140668e4d854a8b8f5ee08cd0b170de1"), looks := true }, kinds := [], alts := [], laidByText := true, laidKinds := [.data, .data, .data, .sentinel, .sentinel, .sentinel, .sentinel], laidTests := true, laidLooks := .later }
def FnDescribedCardSaid : Prop := Claim7.holds Tryz.pinned (.plain (OpenSpec.ofChange fnDescribedSpec)) fnDescribedCard

/-- THE TIED CARD OF 'laws.FnNext'. -/
def fnNextCard : Claim7 := { stood := { row := fnNextRow, standIns := [], harness := (true, "ab0e5451898ba7af3fddb4ece5cff62e140668e4d854a8b8f5ee08cd0b170de1"), looks := true }, kinds := [], alts := [], laidByText := true, laidKinds := [.data, .data, .data, .sentinel, .sentinel, .sentinel, .sentinel, .sentinel], laidTests := true, laidLooks := .later }
def FnNextCardSaid : Prop := Claim7.holds Tryz.pinned (.plain (OpenSpec.ofChange fnNextSpec)) fnNextCard

/-- THE TIED CARD OF 'laws.FnPlaces'. -/
def fnPlacesCard : Claim7 := { stood := { row := fnPlacesRow, standIns := [], harness := (true, "ab0e5451898ba7af3fddb4ece5cff62e140668e4d854a8b8f5ee08cd0b170de1"), looks := true }, kinds := [], alts := [], laidByText := true, laidKinds := [.data, .data, .data, .sentinel, .sentinel, .sentinel, .sentinel, .sentinel], laidTests := true, laidLooks := .later }
def FnPlacesCardSaid : Prop := Claim7.holds Tryz.pinned (.plain (OpenSpec.ofChange fnPlacesSpec)) fnPlacesCard

/-- THE TIED CARD OF 'laws.FnTaken'. -/
def fnTakenCard : Claim7 := { stood := { row := fnTakenRow, standIns := [], harness := (true, "ab0e5451898ba7af3fddb4ece5cff62e140668e4d854a8b8f5ee08cd0b170de1"), looks := true }, kinds := [], alts := [], laidByText := true, laidKinds := [.data, .data, .data, .sentinel, .sentinel, .sentinel, .sentinel, .sentinel], laidTests := true, laidLooks := .later }
def FnTakenCardSaid : Prop := Claim7.holds Tryz.pinned (.plain (OpenSpec.ofChange fnTakenSpec)) fnTakenCard

/-- THE TIED CARD OF 'laws.FnMacros'. -/
def fnMacrosCard : Claim7 := { stood := { row := fnMacrosRow, standIns := [], harness := (true, "ab0e5451898ba7af3fddb4ece5cff62e140668e4d854a8b8f5ee08cd0b170de1"), looks := true }, kinds := [], alts := [], laidByText := true, laidKinds := [.data, .data, .data, .sentinel, .sentinel, .sentinel, .sentinel, .sentinel], laidTests := true, laidLooks := .later }
def FnMacrosCardSaid : Prop := Claim7.holds Tryz.pinned (.plain (OpenSpec.ofChange fnMacrosSpec)) fnMacrosCard

/-- THE TIED CARD OF 'laws.FnRefused'. -/
def fnRefusedCard : Claim7 := { stood := { row := fnRefusedRow, standIns := [], harness := (true, "ab0e5451898ba7af3fddb4ece5cff62e140668e4d854a8b8f5ee08cd0b170de1"), looks := true }, kinds := [], alts := [], laidByText := true, laidKinds := [.data, .data, .data, .sentinel, .sentinel, .sentinel, .sentinel, .sentinel], laidTests := true, laidLooks := .later }
def FnRefusedCardSaid : Prop := Claim7.holds Tryz.pinned (.plain (OpenSpec.ofChange fnRefusedSpec)) fnRefusedCard

/-- THE TIED CARD OF 'laws.FnFires'. -/
def fnFiresCard : Claim7 := { stood := { row := fnFiresRow, standIns := [], harness := (true, "ab0e5451898ba7af3fddb4ece5cff62e140668e4d854a8b8f5ee08cd0b170de1"), looks := true }, kinds := [], alts := [], laidByText := true, laidKinds := [.data, .data, .data, .sentinel, .sentinel, .sentinel, .sentinel, .sentinel], laidTests := true, laidLooks := .later }
def FnFiresCardSaid : Prop := Claim7.holds Tryz.pinned (.plain (OpenSpec.ofChange fnFiresSpec)) fnFiresCard

/-- THE SECOND FORM's CARD OF 'laws.FnFields'. -/
def fnFieldsUptoCard : Claim7 := { stood := { row := fnFieldsUptoRow, standIns := [], harness := (true, "ab0e5451898ba7af3fddb4ece5cff62e140668e4d854a8b8f5ee08cd0b170de1"), looks := true }, kinds := [], alts := [], laidByText := true, laidKinds := [.data, .data, .data, .sentinel, .sentinel, .sentinel], laidTests := true, laidLooks := .later }
def FnFieldsUptoCardSaid : Prop := Claim7.holds Tryz.pinned (.plain (OpenSpec.upto fnFieldsSpec)) fnFieldsUptoCard

/-- THE SECOND FORM's CARD OF 'laws.FnTrimmed'. -/
def fnTrimmedUptoCard : Claim7 := { stood := { row := fnTrimmedUptoRow, standIns := [], harness := (true, "ab0e5451898ba7af3fddb4ece5cff62e140668e4d854a8b8f5ee08cd0b170de1"), looks := true }, kinds := [], alts := [], laidByText := true, laidKinds := [.data, .data, .data, .sentinel, .sentinel, .sentinel], laidTests := true, laidLooks := .later }
def FnTrimmedUptoCardSaid : Prop := Claim7.holds Tryz.pinned (.plain (OpenSpec.upto fnTrimmedSpec)) fnTrimmedUptoCard

/-- THE SECOND FORM's CARD OF 'laws.FnDescribed'. -/
def fnDescribedUptoCard : Claim7 := { stood := { row := fnDescribedUptoRow, standIns := [], harness := (true, "ab0e5451898ba7af3fddb4ece5cff62e140668e4d854a8b8f5ee08cd0b170de1"), looks := true }, kinds := [], alts := [], laidByText := true, laidKinds := [.data, .data, .data, .sentinel, .sentinel, .sentinel, .sentinel], laidTests := true, laidLooks := .later }
def FnDescribedUptoCardSaid : Prop := Claim7.holds Tryz.pinned (.plain (OpenSpec.upto fnDescribedSpec)) fnDescribedUptoCard

/-- THE SECOND FORM's CARD OF 'laws.FnNext'. -/
def fnNextUptoCard : Claim7 := { stood := { row := fnNextUptoRow, standIns := [], harness := (true, "ab0e5451898ba7af3fddb4ece5cff62e140668e4d854a8b8f5ee08cd0b170de1"), looks := true }, kinds := [], alts := [], laidByText := true, laidKinds := [.data, .data, .data, .sentinel, .sentinel, .sentinel, .sentinel, .sentinel], laidTests := true, laidLooks := .later }
def FnNextUptoCardSaid : Prop := Claim7.holds Tryz.pinned (.plain (OpenSpec.upto fnNextSpec)) fnNextUptoCard

/-- THE SECOND FORM's CARD OF 'laws.FnPlaces'. -/
def fnPlacesUptoCard : Claim7 := { stood := { row := fnPlacesUptoRow, standIns := [], harness := (true, "ab0e5451898ba7af3fddb4ece5cff62e140668e4d854a8b8f5ee08cd0b170de1"), looks := true }, kinds := [], alts := [], laidByText := true, laidKinds := [.data, .data, .data, .sentinel, .sentinel, .sentinel, .sentinel, .sentinel], laidTests := true, laidLooks := .later }
def FnPlacesUptoCardSaid : Prop := Claim7.holds Tryz.pinned (.plain (OpenSpec.upto fnPlacesSpec)) fnPlacesUptoCard

/-- THE SECOND FORM's CARD OF 'laws.FnTaken'. -/
def fnTakenUptoCard : Claim7 := { stood := { row := fnTakenUptoRow, standIns := [], harness := (true, "ab0e5451898ba7af3fddb4ece5cff62e140668e4d854a8b8f5ee08cd0b170de1"), looks := true }, kinds := [], alts := [], laidByText := true, laidKinds := [.data, .data, .data, .sentinel, .sentinel, .sentinel, .sentinel, .sentinel], laidTests := true, laidLooks := .later }
def FnTakenUptoCardSaid : Prop := Claim7.holds Tryz.pinned (.plain (OpenSpec.upto fnTakenSpec)) fnTakenUptoCard

/-- THE SECOND FORM's CARD OF 'laws.FnMacros'. -/
def fnMacrosUptoCard : Claim7 := { stood := { row := fnMacrosUptoRow, standIns := [], harness := (true, "ab0e5451898ba7af3fddb4ece5cff62e140668e4d854a8b8f5ee08cd0b170de1"), looks := true }, kinds := [], alts := [], laidByText := true, laidKinds := [.data, .data, .data, .sentinel, .sentinel, .sentinel, .sentinel, .sentinel], laidTests := true, laidLooks := .later }
def FnMacrosUptoCardSaid : Prop := Claim7.holds Tryz.pinned (.plain (OpenSpec.upto fnMacrosSpec)) fnMacrosUptoCard

/-- THE SECOND FORM's CARD OF 'laws.FnRefused'. -/
def fnRefusedUptoCard : Claim7 := { stood := { row := fnRefusedUptoRow, standIns := [], harness := (true, "ab0e5451898ba7af3fddb4ece5cff62e140668e4d854a8b8f5ee08cd0b170de1"), looks := true }, kinds := [], alts := [], laidByText := true, laidKinds := [.data, .data, .data, .sentinel, .sentinel, .sentinel, .sentinel, .sentinel], laidTests := true, laidLooks := .later }
def FnRefusedUptoCardSaid : Prop := Claim7.holds Tryz.pinned (.plain (OpenSpec.upto fnRefusedSpec)) fnRefusedUptoCard

/-- THE SECOND FORM's CARD OF 'laws.FnFires'. -/
def fnFiresUptoCard : Claim7 := { stood := { row := fnFiresUptoRow, standIns := [], harness := (true, "ab0e5451898ba7af3fddb4ece5cff62e140668e4d854a8b8f5ee08cd0b170de1"), looks := true }, kinds := [], alts := [], laidByText := true, laidKinds := [.data, .data, .data, .sentinel, .sentinel, .sentinel, .sentinel, .sentinel], laidTests := true, laidLooks := .later }
def FnFiresUptoCardSaid : Prop := Claim7.holds Tryz.pinned (.plain (OpenSpec.upto fnFiresSpec)) fnFiresUptoCard
end Rows
end Go.Proofs.YtmaffdhcmdhjfaaGreatDoor
