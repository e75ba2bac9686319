/-
  DERIVED. GIVEN WITH THE SEED: THE CARDS: each row of YtklagmhonmbdgaaGreatDoorRows.lean that lists a variable, with what it lists TIED to the program's text (the seventh form; the later family's looks); each row that meets fmt, with fmt's text TOLD by the authors' own Lean function (tested against real Go, not proved from fmt's source: count such statements apart). THE CARD IS WHAT COUNTS. Prove the row's statement (the work); the ties are given (YtklagmhonmbdgaaGreatDoorTie.lean); close each card by the builder's one call (the guide's Derived/Test/ToyasCard.lean, 'card_holds'). Laid BY PROGRAM, IN A SANDBOX (cutbox-door.mjs). By AI agents, Wed Nov 11 2026. No macro, syntax, notation, axiom, sorry.
-/
import Derived.Test.YtklagmhonmbdgaaGreatDoorRows
import GoSem.ClaimSeven
namespace Go.Proofs.YtklagmhonmbdgaaGreatDoor
namespace Rows

/-- THE TIED CARD OF 'laws.FnConfig'. -/
def fnConfigCard : Claim7 := { stood := { row := fnConfigRow, standIns := [], harness := (true, "09ae77e30f36cd5f4e62352753e7cdaf3fcb38f1a84f2c91d9d740edf3cddeba"), looks := true }, kinds := [], alts := [], laidByText := true, laidKinds := [.handle, .sentinel, .sentinel, .sentinel, .sentinel, .data, .sentinel, .sentinel, .data, .data], laidTests := true, laidLooks := .later }
def FnConfigCardSaid : Prop := Claim7.holds Tryz.pinned (.plain (OpenSpec.ofChange fnConfigSpec)) fnConfigCard

/-- THE TIED CARD OF 'laws.FnSignature'. -/
def fnSignatureCard : Claim7 := { stood := { row := fnSignatureRow, standIns := [], harness := (true, "09ae77e30f36cd5f4e62352753e7cdaf3fcb38f1a84f2c91d9d740edf3cddeba"), looks := true }, kinds := [], alts := [], laidByText := true, laidKinds := [.handle, .sentinel, .sentinel, .sentinel, .sentinel, .data, .sentinel, .sentinel, .data, .data], laidTests := true, laidLooks := .later }
def FnSignatureCardSaid : Prop := Claim7.holds Tryz.pinned (.plain (OpenSpec.ofChange fnSignatureSpec)) fnSignatureCard

/-- THE TIED CARD OF 'laws.FnClearKind'. -/
def fnClearKindCard : Claim7 := { stood := { row := fnClearKindRow, standIns := [], harness := (true, "09ae77e30f36cd5f4e62352753e7cdaf3fcb38f1a84f2c91d9d740edf3cddeba"), looks := true }, kinds := [], alts := [], laidByText := true, laidKinds := [.handle, .sentinel, .sentinel, .sentinel, .sentinel, .data, .sentinel, .sentinel, .data, .data], laidTests := true, laidLooks := .later }
def FnClearKindCardSaid : Prop := Claim7.holds Tryz.pinned (.plain (OpenSpec.ofChange fnClearKindSpec)) fnClearKindCard

/-- THE TIED CARD OF 'laws.FnClearLength'. -/
def fnClearLengthCard : Claim7 := { stood := { row := fnClearLengthRow, standIns := [], harness := (true, "09ae77e30f36cd5f4e62352753e7cdaf3fcb38f1a84f2c91d9d740edf3cddeba"), looks := true }, kinds := [], alts := [], laidByText := true, laidKinds := [.handle, .sentinel, .sentinel, .sentinel, .sentinel, .data, .sentinel, .sentinel, .data, .data], laidTests := true, laidLooks := .later }
def FnClearLengthCardSaid : Prop := Claim7.holds Tryz.pinned (.plain (OpenSpec.ofChange fnClearLengthSpec)) fnClearLengthCard

/-- THE TIED CARD OF 'laws.FnCut'. -/
def fnCutCard : Claim7 := { stood := { row := fnCutRow, standIns := [], harness := (true, "09ae77e30f36cd5f4e62352753e7cdaf3fcb38f1a84f2c91d9d740edf3cddeba"), looks := true }, kinds := [], alts := [], laidByText := true, laidKinds := [.handle, .sentinel, .sentinel, .sentinel, .sentinel, .data, .sentinel, .sentinel, .data, .data], laidTests := true, laidLooks := .later }
def FnCutCardSaid : Prop := Claim7.holds Tryz.pinned (.plain (OpenSpec.ofChange fnCutSpec)) fnCutCard

/-- THE TIED CARD OF 'laws.FnFilter'. -/
def fnFilterCard : Claim7 := { stood := { row := fnFilterRow, standIns := [], harness := (true, "09ae77e30f36cd5f4e62352753e7cdaf3fcb38f1a84f2c91d9d740edf3cddeba"), looks := true }, kinds := [], alts := [], laidByText := true, laidKinds := [.handle, .sentinel, .sentinel, .sentinel, .sentinel, .data, .sentinel, .sentinel, .data, .data], laidTests := true, laidLooks := .later }
def FnFilterCardSaid : Prop := Claim7.holds Tryz.pinned (.plain (OpenSpec.ofChange fnFilterSpec)) fnFilterCard

/-- THE TIED CARD OF 'laws.FnHeadLength'. -/
def fnHeadLengthCard : Claim7 := { stood := { row := fnHeadLengthRow, standIns := [], harness := (true, "09ae77e30f36cd5f4e62352753e7cdaf3fcb38f1a84f2c91d9d740edf3cddeba"), looks := true }, kinds := [], alts := [], laidByText := true, laidKinds := [.handle, .sentinel, .sentinel, .sentinel, .sentinel, .data, .sentinel, .sentinel, .data, .data], laidTests := true, laidLooks := .later }
def FnHeadLengthCardSaid : Prop := Claim7.holds Tryz.pinned (.plain (OpenSpec.ofChange fnHeadLengthSpec)) fnHeadLengthCard

/-- THE TIED CARD OF 'laws.FnLong'. -/
def fnLongCard : Claim7 := { stood := { row := fnLongRow, standIns := [], harness := (true, "09ae77e30f36cd5f4e62352753e7cdaf3fcb38f1a84f2c91d9d740edf3cddeba"), looks := true }, kinds := [], alts := [], laidByText := true, laidKinds := [.handle, .sentinel, .sentinel, .sentinel, .sentinel, .data, .sentinel, .sentinel, .data, .data], laidTests := true, laidLooks := .later }
def FnLongCardSaid : Prop := Claim7.holds Tryz.pinned (.plain (OpenSpec.ofChange fnLongSpec)) fnLongCard

/-- THE TIED CARD OF 'laws.FnMethod'. -/
def fnMethodCard : Claim7 := { stood := { row := fnMethodRow, standIns := [], harness := (true, "09ae77e30f36cd5f4e62352753e7cdaf3fcb38f1a84f2c91d9d740edf3cddeba"), looks := true }, kinds := [], alts := [], laidByText := true, laidKinds := [.handle, .sentinel, .sentinel, .sentinel, .sentinel, .data, .sentinel, .sentinel, .data, .data], laidTests := true, laidLooks := .later }
def FnMethodCardSaid : Prop := Claim7.holds Tryz.pinned (.plain (OpenSpec.ofChange fnMethodSpec)) fnMethodCard

/-- THE TIED CARD OF 'laws.FnNoData'. -/
def fnNoDataCard : Claim7 := { stood := { row := fnNoDataRow, standIns := [], harness := (true, "09ae77e30f36cd5f4e62352753e7cdaf3fcb38f1a84f2c91d9d740edf3cddeba"), looks := true }, kinds := [], alts := [], laidByText := true, laidKinds := [.handle, .sentinel, .sentinel, .sentinel, .sentinel, .data, .sentinel, .sentinel, .data, .data], laidTests := true, laidLooks := .later }
def FnNoDataCardSaid : Prop := Claim7.holds Tryz.pinned (.plain (OpenSpec.ofChange fnNoDataSpec)) fnNoDataCard

/-- THE TIED CARD OF 'laws.FnNoHead'. -/
def fnNoHeadCard : Claim7 := { stood := { row := fnNoHeadRow, standIns := [], harness := (true, "09ae77e30f36cd5f4e62352753e7cdaf3fcb38f1a84f2c91d9d740edf3cddeba"), looks := true }, kinds := [], alts := [], laidByText := true, laidKinds := [.handle, .sentinel, .sentinel, .sentinel, .sentinel, .data, .sentinel, .sentinel, .data, .data], laidTests := true, laidLooks := .later }
def FnNoHeadCardSaid : Prop := Claim7.holds Tryz.pinned (.plain (OpenSpec.ofChange fnNoHeadSpec)) fnNoHeadCard

/-- THE TIED CARD OF 'laws.FnNoPalette'. -/
def fnNoPaletteCard : Claim7 := { stood := { row := fnNoPaletteRow, standIns := [], harness := (true, "09ae77e30f36cd5f4e62352753e7cdaf3fcb38f1a84f2c91d9d740edf3cddeba"), looks := true }, kinds := [], alts := [], laidByText := true, laidKinds := [.handle, .sentinel, .sentinel, .sentinel, .sentinel, .data, .sentinel, .sentinel, .data, .data], laidTests := true, laidLooks := .later }
def FnNoPaletteCardSaid : Prop := Claim7.holds Tryz.pinned (.plain (OpenSpec.ofChange fnNoPaletteSpec)) fnNoPaletteCard

/-- THE TIED CARD OF 'laws.FnNoSize'. -/
def fnNoSizeCard : Claim7 := { stood := { row := fnNoSizeRow, standIns := [], harness := (true, "09ae77e30f36cd5f4e62352753e7cdaf3fcb38f1a84f2c91d9d740edf3cddeba"), looks := true }, kinds := [], alts := [], laidByText := true, laidKinds := [.handle, .sentinel, .sentinel, .sentinel, .sentinel, .data, .sentinel, .sentinel, .data, .data], laidTests := true, laidLooks := .later }
def FnNoSizeCardSaid : Prop := Claim7.holds Tryz.pinned (.plain (OpenSpec.ofChange fnNoSizeSpec)) fnNoSizeCard

/-- THE TIED CARD OF 'laws.FnPaletteLength'. -/
def fnPaletteLengthCard : Claim7 := { stood := { row := fnPaletteLengthRow, standIns := [], harness := (true, "09ae77e30f36cd5f4e62352753e7cdaf3fcb38f1a84f2c91d9d740edf3cddeba"), looks := true }, kinds := [], alts := [], laidByText := true, laidKinds := [.handle, .sentinel, .sentinel, .sentinel, .sentinel, .data, .sentinel, .sentinel, .data, .data], laidTests := true, laidLooks := .later }
def FnPaletteLengthCardSaid : Prop := Claim7.holds Tryz.pinned (.plain (OpenSpec.ofChange fnPaletteLengthSpec)) fnPaletteLengthCard

/-- THE TIED CARD OF 'laws.FnShort'. -/
def fnShortCard : Claim7 := { stood := { row := fnShortRow, standIns := [], harness := (true, "09ae77e30f36cd5f4e62352753e7cdaf3fcb38f1a84f2c91d9d740edf3cddeba"), looks := true }, kinds := [], alts := [], laidByText := true, laidKinds := [.handle, .sentinel, .sentinel, .sentinel, .sentinel, .data, .sentinel, .sentinel, .data, .data], laidTests := true, laidLooks := .later }
def FnShortCardSaid : Prop := Claim7.holds Tryz.pinned (.plain (OpenSpec.ofChange fnShortSpec)) fnShortCard

/-- THE TIED CARD OF 'laws.FnSum'. -/
def fnSumCard : Claim7 := { stood := { row := fnSumRow, standIns := [], harness := (true, "09ae77e30f36cd5f4e62352753e7cdaf3fcb38f1a84f2c91d9d740edf3cddeba"), looks := true }, kinds := [], alts := [], laidByText := true, laidKinds := [.handle, .sentinel, .sentinel, .sentinel, .sentinel, .data, .sentinel, .sentinel, .data, .data], laidTests := true, laidLooks := .later }
def FnSumCardSaid : Prop := Claim7.holds Tryz.pinned (.plain (OpenSpec.ofChange fnSumSpec)) fnSumCard

/-- THE TIED CARD OF 'laws.FnTwoHeads'. -/
def fnTwoHeadsCard : Claim7 := { stood := { row := fnTwoHeadsRow, standIns := [], harness := (true, "09ae77e30f36cd5f4e62352753e7cdaf3fcb38f1a84f2c91d9d740edf3cddeba"), looks := true }, kinds := [], alts := [], laidByText := true, laidKinds := [.handle, .sentinel, .sentinel, .sentinel, .sentinel, .data, .sentinel, .sentinel, .data, .data], laidTests := true, laidLooks := .later }
def FnTwoHeadsCardSaid : Prop := Claim7.holds Tryz.pinned (.plain (OpenSpec.ofChange fnTwoHeadsSpec)) fnTwoHeadsCard

/-- THE TIED CARD OF 'laws.FnZlib'. -/
def fnZlibCard : Claim7 := { stood := { row := fnZlibRow, standIns := [], harness := (true, "09ae77e30f36cd5f4e62352753e7cdaf3fcb38f1a84f2c91d9d740edf3cddeba"), looks := true }, kinds := [], alts := [], laidByText := true, laidKinds := [.handle, .sentinel, .sentinel, .sentinel, .sentinel, .data, .sentinel, .sentinel, .data, .data], laidTests := true, laidLooks := .later }
def FnZlibCardSaid : Prop := Claim7.holds Tryz.pinned (.plain (OpenSpec.ofChange fnZlibSpec)) fnZlibCard

/-- THE TIED CARD OF 'laws.FnPieces'. -/
def fnPiecesCard : Claim7 := { stood := { row := fnPiecesRow, standIns := [], harness := (true, "09ae77e30f36cd5f4e62352753e7cdaf3fcb38f1a84f2c91d9d740edf3cddeba"), looks := true }, kinds := [], alts := [], laidByText := true, laidKinds := [.handle, .sentinel, .sentinel, .sentinel, .sentinel, .data, .sentinel, .sentinel, .data, .data], laidTests := true, laidLooks := .later }
def FnPiecesCardSaid : Prop := Claim7.holds Tryz.pinned (.plain (OpenSpec.ofChange fnPiecesSpec)) fnPiecesCard

/-- THE SECOND FORM's CARD OF 'laws.FnConfig'. -/
def fnConfigUptoCard : Claim7 := { stood := { row := fnConfigUptoRow, standIns := [], harness := (true, "09ae77e30f36cd5f4e62352753e7cdaf3fcb38f1a84f2c91d9d740edf3cddeba"), looks := true }, kinds := [], alts := [], laidByText := true, laidKinds := [.handle, .sentinel, .sentinel, .sentinel, .sentinel, .data, .sentinel, .sentinel, .data, .data], laidTests := true, laidLooks := .later }
def FnConfigUptoCardSaid : Prop := Claim7.holds Tryz.pinned (.plain (OpenSpec.upto fnConfigSpec)) fnConfigUptoCard

/-- THE SECOND FORM's CARD OF 'laws.FnSignature'. -/
def fnSignatureUptoCard : Claim7 := { stood := { row := fnSignatureUptoRow, standIns := [], harness := (true, "09ae77e30f36cd5f4e62352753e7cdaf3fcb38f1a84f2c91d9d740edf3cddeba"), looks := true }, kinds := [], alts := [], laidByText := true, laidKinds := [.handle, .sentinel, .sentinel, .sentinel, .sentinel, .data, .sentinel, .sentinel, .data, .data], laidTests := true, laidLooks := .later }
def FnSignatureUptoCardSaid : Prop := Claim7.holds Tryz.pinned (.plain (OpenSpec.upto fnSignatureSpec)) fnSignatureUptoCard

/-- THE SECOND FORM's CARD OF 'laws.FnClearKind'. -/
def fnClearKindUptoCard : Claim7 := { stood := { row := fnClearKindUptoRow, standIns := [], harness := (true, "09ae77e30f36cd5f4e62352753e7cdaf3fcb38f1a84f2c91d9d740edf3cddeba"), looks := true }, kinds := [], alts := [], laidByText := true, laidKinds := [.handle, .sentinel, .sentinel, .sentinel, .sentinel, .data, .sentinel, .sentinel, .data, .data], laidTests := true, laidLooks := .later }
def FnClearKindUptoCardSaid : Prop := Claim7.holds Tryz.pinned (.plain (OpenSpec.upto fnClearKindSpec)) fnClearKindUptoCard

/-- THE SECOND FORM's CARD OF 'laws.FnClearLength'. -/
def fnClearLengthUptoCard : Claim7 := { stood := { row := fnClearLengthUptoRow, standIns := [], harness := (true, "09ae77e30f36cd5f4e62352753e7cdaf3fcb38f1a84f2c91d9d740edf3cddeba"), looks := true }, kinds := [], alts := [], laidByText := true, laidKinds := [.handle, .sentinel, .sentinel, .sentinel, .sentinel, .data, .sentinel, .sentinel, .data, .data], laidTests := true, laidLooks := .later }
def FnClearLengthUptoCardSaid : Prop := Claim7.holds Tryz.pinned (.plain (OpenSpec.upto fnClearLengthSpec)) fnClearLengthUptoCard

/-- THE SECOND FORM's CARD OF 'laws.FnCut'. -/
def fnCutUptoCard : Claim7 := { stood := { row := fnCutUptoRow, standIns := [], harness := (true, "09ae77e30f36cd5f4e62352753e7cdaf3fcb38f1a84f2c91d9d740edf3cddeba"), looks := true }, kinds := [], alts := [], laidByText := true, laidKinds := [.handle, .sentinel, .sentinel, .sentinel, .sentinel, .data, .sentinel, .sentinel, .data, .data], laidTests := true, laidLooks := .later }
def FnCutUptoCardSaid : Prop := Claim7.holds Tryz.pinned (.plain (OpenSpec.upto fnCutSpec)) fnCutUptoCard

/-- THE SECOND FORM's CARD OF 'laws.FnFilter'. -/
def fnFilterUptoCard : Claim7 := { stood := { row := fnFilterUptoRow, standIns := [], harness := (true, "09ae77e30f36cd5f4e62352753e7cdaf3fcb38f1a84f2c91d9d740edf3cddeba"), looks := true }, kinds := [], alts := [], laidByText := true, laidKinds := [.handle, .sentinel, .sentinel, .sentinel, .sentinel, .data, .sentinel, .sentinel, .data, .data], laidTests := true, laidLooks := .later }
def FnFilterUptoCardSaid : Prop := Claim7.holds Tryz.pinned (.plain (OpenSpec.upto fnFilterSpec)) fnFilterUptoCard

/-- THE SECOND FORM's CARD OF 'laws.FnHeadLength'. -/
def fnHeadLengthUptoCard : Claim7 := { stood := { row := fnHeadLengthUptoRow, standIns := [], harness := (true, "09ae77e30f36cd5f4e62352753e7cdaf3fcb38f1a84f2c91d9d740edf3cddeba"), looks := true }, kinds := [], alts := [], laidByText := true, laidKinds := [.handle, .sentinel, .sentinel, .sentinel, .sentinel, .data, .sentinel, .sentinel, .data, .data], laidTests := true, laidLooks := .later }
def FnHeadLengthUptoCardSaid : Prop := Claim7.holds Tryz.pinned (.plain (OpenSpec.upto fnHeadLengthSpec)) fnHeadLengthUptoCard

/-- THE SECOND FORM's CARD OF 'laws.FnLong'. -/
def fnLongUptoCard : Claim7 := { stood := { row := fnLongUptoRow, standIns := [], harness := (true, "09ae77e30f36cd5f4e62352753e7cdaf3fcb38f1a84f2c91d9d740edf3cddeba"), looks := true }, kinds := [], alts := [], laidByText := true, laidKinds := [.handle, .sentinel, .sentinel, .sentinel, .sentinel, .data, .sentinel, .sentinel, .data, .data], laidTests := true, laidLooks := .later }
def FnLongUptoCardSaid : Prop := Claim7.holds Tryz.pinned (.plain (OpenSpec.upto fnLongSpec)) fnLongUptoCard

/-- THE SECOND FORM's CARD OF 'laws.FnMethod'. -/
def fnMethodUptoCard : Claim7 := { stood := { row := fnMethodUptoRow, standIns := [], harness := (true, "09ae77e30f36cd5f4e62352753e7cdaf3fcb38f1a84f2c91d9d740edf3cddeba"), looks := true }, kinds := [], alts := [], laidByText := true, laidKinds := [.handle, .sentinel, .sentinel, .sentinel, .sentinel, .data, .sentinel, .sentinel, .data, .data], laidTests := true, laidLooks := .later }
def FnMethodUptoCardSaid : Prop := Claim7.holds Tryz.pinned (.plain (OpenSpec.upto fnMethodSpec)) fnMethodUptoCard

/-- THE SECOND FORM's CARD OF 'laws.FnNoData'. -/
def fnNoDataUptoCard : Claim7 := { stood := { row := fnNoDataUptoRow, standIns := [], harness := (true, "09ae77e30f36cd5f4e62352753e7cdaf3fcb38f1a84f2c91d9d740edf3cddeba"), looks := true }, kinds := [], alts := [], laidByText := true, laidKinds := [.handle, .sentinel, .sentinel, .sentinel, .sentinel, .data, .sentinel, .sentinel, .data, .data], laidTests := true, laidLooks := .later }
def FnNoDataUptoCardSaid : Prop := Claim7.holds Tryz.pinned (.plain (OpenSpec.upto fnNoDataSpec)) fnNoDataUptoCard

/-- THE SECOND FORM's CARD OF 'laws.FnNoHead'. -/
def fnNoHeadUptoCard : Claim7 := { stood := { row := fnNoHeadUptoRow, standIns := [], harness := (true, "09ae77e30f36cd5f4e62352753e7cdaf3fcb38f1a84f2c91d9d740edf3cddeba"), looks := true }, kinds := [], alts := [], laidByText := true, laidKinds := [.handle, .sentinel, .sentinel, .sentinel, .sentinel, .data, .sentinel, .sentinel, .data, .data], laidTests := true, laidLooks := .later }
def FnNoHeadUptoCardSaid : Prop := Claim7.holds Tryz.pinned (.plain (OpenSpec.upto fnNoHeadSpec)) fnNoHeadUptoCard

/-- THE SECOND FORM's CARD OF 'laws.FnNoPalette'. -/
def fnNoPaletteUptoCard : Claim7 := { stood := { row := fnNoPaletteUptoRow, standIns := [], harness := (true, "09ae77e30f36cd5f4e62352753e7cdaf3fcb38f1a84f2c91d9d740edf3cddeba"), looks := true }, kinds := [], alts := [], laidByText := true, laidKinds := [.handle, .sentinel, .sentinel, .sentinel, .sentinel, .data, .sentinel, .sentinel, .data, .data], laidTests := true, laidLooks := .later }
def FnNoPaletteUptoCardSaid : Prop := Claim7.holds Tryz.pinned (.plain (OpenSpec.upto fnNoPaletteSpec)) fnNoPaletteUptoCard

/-- THE SECOND FORM's CARD OF 'laws.FnNoSize'. -/
def fnNoSizeUptoCard : Claim7 := { stood := { row := fnNoSizeUptoRow, standIns := [], harness := (true, "09ae77e30f36cd5f4e62352753e7cdaf3fcb38f1a84f2c91d9d740edf3cddeba"), looks := true }, kinds := [], alts := [], laidByText := true, laidKinds := [.handle, .sentinel, .sentinel, .sentinel, .sentinel, .data, .sentinel, .sentinel, .data, .data], laidTests := true, laidLooks := .later }
def FnNoSizeUptoCardSaid : Prop := Claim7.holds Tryz.pinned (.plain (OpenSpec.upto fnNoSizeSpec)) fnNoSizeUptoCard

/-- THE SECOND FORM's CARD OF 'laws.FnPaletteLength'. -/
def fnPaletteLengthUptoCard : Claim7 := { stood := { row := fnPaletteLengthUptoRow, standIns := [], harness := (true, "09ae77e30f36cd5f4e62352753e7cdaf3fcb38f1a84f2c91d9d740edf3cddeba"), looks := true }, kinds := [], alts := [], laidByText := true, laidKinds := [.handle, .sentinel, .sentinel, .sentinel, .sentinel, .data, .sentinel, .sentinel, .data, .data], laidTests := true, laidLooks := .later }
def FnPaletteLengthUptoCardSaid : Prop := Claim7.holds Tryz.pinned (.plain (OpenSpec.upto fnPaletteLengthSpec)) fnPaletteLengthUptoCard

/-- THE SECOND FORM's CARD OF 'laws.FnShort'. -/
def fnShortUptoCard : Claim7 := { stood := { row := fnShortUptoRow, standIns := [], harness := (true, "09ae77e30f36cd5f4e62352753e7cdaf3fcb38f1a84f2c91d9d740edf3cddeba"), looks := true }, kinds := [], alts := [], laidByText := true, laidKinds := [.handle, .sentinel, .sentinel, .sentinel, .sentinel, .data, .sentinel, .sentinel, .data, .data], laidTests := true, laidLooks := .later }
def FnShortUptoCardSaid : Prop := Claim7.holds Tryz.pinned (.plain (OpenSpec.upto fnShortSpec)) fnShortUptoCard

/-- THE SECOND FORM's CARD OF 'laws.FnSum'. -/
def fnSumUptoCard : Claim7 := { stood := { row := fnSumUptoRow, standIns := [], harness := (true, "09ae77e30f36cd5f4e62352753e7cdaf3fcb38f1a84f2c91d9d740edf3cddeba"), looks := true }, kinds := [], alts := [], laidByText := true, laidKinds := [.handle, .sentinel, .sentinel, .sentinel, .sentinel, .data, .sentinel, .sentinel, .data, .data], laidTests := true, laidLooks := .later }
def FnSumUptoCardSaid : Prop := Claim7.holds Tryz.pinned (.plain (OpenSpec.upto fnSumSpec)) fnSumUptoCard

/-- THE SECOND FORM's CARD OF 'laws.FnTwoHeads'. -/
def fnTwoHeadsUptoCard : Claim7 := { stood := { row := fnTwoHeadsUptoRow, standIns := [], harness := (true, "09ae77e30f36cd5f4e62352753e7cdaf3fcb38f1a84f2c91d9d740edf3cddeba"), looks := true }, kinds := [], alts := [], laidByText := true, laidKinds := [.handle, .sentinel, .sentinel, .sentinel, .sentinel, .data, .sentinel, .sentinel, .data, .data], laidTests := true, laidLooks := .later }
def FnTwoHeadsUptoCardSaid : Prop := Claim7.holds Tryz.pinned (.plain (OpenSpec.upto fnTwoHeadsSpec)) fnTwoHeadsUptoCard

/-- THE SECOND FORM's CARD OF 'laws.FnZlib'. -/
def fnZlibUptoCard : Claim7 := { stood := { row := fnZlibUptoRow, standIns := [], harness := (true, "09ae77e30f36cd5f4e62352753e7cdaf3fcb38f1a84f2c91d9d740edf3cddeba"), looks := true }, kinds := [], alts := [], laidByText := true, laidKinds := [.handle, .sentinel, .sentinel, .sentinel, .sentinel, .data, .sentinel, .sentinel, .data, .data], laidTests := true, laidLooks := .later }
def FnZlibUptoCardSaid : Prop := Claim7.holds Tryz.pinned (.plain (OpenSpec.upto fnZlibSpec)) fnZlibUptoCard

/-- THE SECOND FORM's CARD OF 'laws.FnPieces'. -/
def fnPiecesUptoCard : Claim7 := { stood := { row := fnPiecesUptoRow, standIns := [], harness := (true, "09ae77e30f36cd5f4e62352753e7cdaf3fcb38f1a84f2c91d9d740edf3cddeba"), looks := true }, kinds := [], alts := [], laidByText := true, laidKinds := [.handle, .sentinel, .sentinel, .sentinel, .sentinel, .data, .sentinel, .sentinel, .data, .data], laidTests := true, laidLooks := .later }
def FnPiecesUptoCardSaid : Prop := Claim7.holds Tryz.pinned (.plain (OpenSpec.upto fnPiecesSpec)) fnPiecesUptoCard
end Rows
end Go.Proofs.YtklagmhonmbdgaaGreatDoor
