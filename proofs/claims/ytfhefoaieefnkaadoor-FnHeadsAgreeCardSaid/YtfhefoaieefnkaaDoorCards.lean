/-
  DERIVED. GIVEN WITH THE SEED: THE CARDS: each row of YtfhefoaieefnkaaDoorRows.lean that lists a variable, with what it lists TIED to the program's text (the seventh form; the later family's looks); each row that meets fmt, with fmt's text TOLD by the authors' own Lean function (tested against real Go, not proved from fmt's source: count such statements apart). THE CARD IS WHAT COUNTS. Prove the row's statement (the work); the ties are given (YtfhefoaieefnkaaDoorTie.lean); close each card by the builder's one call (the guide's Derived/Test/ToyasCard.lean, 'card_holds'). Laid BY PROGRAM, IN A SANDBOX (cutbox-door.mjs). By AI agents, Wed Nov 11 2026. No macro, syntax, notation, axiom, sorry.
-/
import Derived.Test.YtfhefoaieefnkaaDoorRows
import GoSem.ClaimSeven
namespace Go.Proofs.YtfhefoaieefnkaaDoor
namespace Rows

/-- THE TIED CARD OF 'laws.FnReadLength'. -/
def fnReadLengthCard : Claim7 := { stood := { row := fnReadLengthRow, standIns := [], harness := (true, "a81a2e7fab7c01480124e7d6f85bbf961873f1db55a2858e4b47e750588c0cb3"), looks := true }, kinds := [], alts := [], laidByText := true, laidKinds := [.sentinel, .sentinel, .sentinel], laidTests := true, laidLooks := .later }
def FnReadLengthCardSaid : Prop := Claim7.holds Tryd.pinned (.plain (OpenSpec.ofChange fnReadLengthSpec)) fnReadLengthCard

/-- THE TIED CARD OF 'laws.FnReadOid'. -/
def fnReadOidCard : Claim7 := { stood := { row := fnReadOidRow, standIns := [], harness := (true, "a81a2e7fab7c01480124e7d6f85bbf961873f1db55a2858e4b47e750588c0cb3"), looks := true }, kinds := [], alts := [], laidByText := true, laidKinds := [.sentinel, .sentinel, .sentinel], laidTests := true, laidLooks := .later }
def FnReadOidCardSaid : Prop := Claim7.holds Tryd.pinned (.plain (OpenSpec.ofChange fnReadOidSpec)) fnReadOidCard

/-- THE TIED CARD OF 'laws.FnReadAnyMpi'. -/
def fnReadAnyMpiCard : Claim7 := { stood := { row := fnReadAnyMpiRow, standIns := [], harness := (true, "a81a2e7fab7c01480124e7d6f85bbf961873f1db55a2858e4b47e750588c0cb3"), looks := true }, kinds := [], alts := [], laidByText := true, laidKinds := [.sentinel, .sentinel, .sentinel], laidTests := true, laidLooks := .later }
def FnReadAnyMpiCardSaid : Prop := Claim7.holds Tryd.pinned (.plain (OpenSpec.ofChange fnReadAnyMpiSpec)) fnReadAnyMpiCard

/-- THE TIED CARD OF 'laws.FnLengthBack'. -/
def fnLengthBackCard : Claim7 := { stood := { row := fnLengthBackRow, standIns := [], harness := (true, "a81a2e7fab7c01480124e7d6f85bbf961873f1db55a2858e4b47e750588c0cb3"), looks := true }, kinds := [], alts := [], laidByText := true, laidKinds := [.sentinel, .sentinel, .sentinel], laidTests := true, laidLooks := .later }
def FnLengthBackCardSaid : Prop := Claim7.holds Tryd.pinned (.plain (OpenSpec.ofChange fnLengthBackSpec)) fnLengthBackCard

/-- THE TIED CARD OF 'laws.FnWriteSubs'. -/
def fnWriteSubsCard : Claim7 := { stood := { row := fnWriteSubsRow, standIns := [], harness := (true, "a81a2e7fab7c01480124e7d6f85bbf961873f1db55a2858e4b47e750588c0cb3"), looks := true }, kinds := [], alts := [], laidByText := true, laidKinds := [.sentinel, .sentinel], laidTests := true, laidLooks := .later }
def FnWriteSubsCardSaid : Prop := Claim7.holds Tryd.pinned (.plain (OpenSpec.ofChange fnWriteSubsSpec)) fnWriteSubsCard

/-- THE TIED CARD OF 'laws.FnReadAttribute'. -/
def fnReadAttributeCard : Claim7 := { stood := { row := fnReadAttributeRow, standIns := [], harness := (true, "a81a2e7fab7c01480124e7d6f85bbf961873f1db55a2858e4b47e750588c0cb3"), looks := true }, kinds := [], alts := [], laidByText := true, laidKinds := [.sentinel, .sentinel], laidTests := true, laidLooks := .later }
def FnReadAttributeCardSaid : Prop := Claim7.holds Tryd.pinned (.plain (OpenSpec.ofChange fnReadAttributeSpec)) fnReadAttributeCard

/-- THE TIED CARD OF 'laws.FnMarker'. -/
def fnMarkerCard : Claim7 := { stood := { row := fnMarkerRow, standIns := [], harness := (true, "a81a2e7fab7c01480124e7d6f85bbf961873f1db55a2858e4b47e750588c0cb3"), looks := true }, kinds := [], alts := [], laidByText := true, laidKinds := [.sentinel, .sentinel], laidTests := true, laidLooks := .later }
def FnMarkerCardSaid : Prop := Claim7.holds Tryd.pinned (.plain (OpenSpec.ofChange fnMarkerSpec)) fnMarkerCard

/-- THE TIED CARD OF 'laws.FnBodyReads'. -/
def fnBodyReadsCard : Claim7 := { stood := { row := fnBodyReadsRow, standIns := [], harness := (true, "a81a2e7fab7c01480124e7d6f85bbf961873f1db55a2858e4b47e750588c0cb3"), looks := true }, kinds := [], alts := [], laidByText := true, laidKinds := [.sentinel, .sentinel, .sentinel], laidTests := true, laidLooks := .later }
def FnBodyReadsCardSaid : Prop := Claim7.holds Tryd.pinned (.plain (OpenSpec.ofChange fnBodyReadsSpec)) fnBodyReadsCard

/-- THE TIED CARD OF 'laws.FnOpaqueBack'. -/
def fnOpaqueBackCard : Claim7 := { stood := { row := fnOpaqueBackRow, standIns := [], harness := (true, "a81a2e7fab7c01480124e7d6f85bbf961873f1db55a2858e4b47e750588c0cb3"), looks := true }, kinds := [], alts := [], laidByText := true, laidKinds := [.sentinel, .sentinel, .sentinel], laidTests := true, laidLooks := .later }
def FnOpaqueBackCardSaid : Prop := Claim7.holds Tryd.pinned (.plain (OpenSpec.ofChange fnOpaqueBackSpec)) fnOpaqueBackCard

/-- THE TIED CARD OF 'laws.FnReadLiteral'. -/
def fnReadLiteralCard : Claim7 := { stood := { row := fnReadLiteralRow, standIns := [], harness := (true, "a81a2e7fab7c01480124e7d6f85bbf961873f1db55a2858e4b47e750588c0cb3"), looks := true }, kinds := [], alts := [], laidByText := true, laidKinds := [.sentinel, .sentinel, .sentinel], laidTests := true, laidLooks := .later }
def FnReadLiteralCardSaid : Prop := Claim7.holds Tryd.pinned (.plain (OpenSpec.ofChange fnReadLiteralSpec)) fnReadLiteralCard

/-- THE TIED CARD OF 'laws.FnHeadBack'. -/
def fnHeadBackCard : Claim7 := { stood := { row := fnHeadBackRow, standIns := [], harness := (true, "a81a2e7fab7c01480124e7d6f85bbf961873f1db55a2858e4b47e750588c0cb3"), looks := true }, kinds := [], alts := [], laidByText := true, laidKinds := [.sentinel, .sentinel, .sentinel], laidTests := true, laidLooks := .later }
def FnHeadBackCardSaid : Prop := Claim7.holds Tryd.pinned (.plain (OpenSpec.ofChange fnHeadBackSpec)) fnHeadBackCard

/-- THE TIED CARD OF 'laws.FnHeadsAgree'. -/
def fnHeadsAgreeCard : Claim7 := { stood := { row := fnHeadsAgreeRow, standIns := [], harness := (true, "a81a2e7fab7c01480124e7d6f85bbf961873f1db55a2858e4b47e750588c0cb3"), looks := true }, kinds := [], alts := [], laidByText := true, laidKinds := [.sentinel, .sentinel, .sentinel], laidTests := true, laidLooks := .later }
def FnHeadsAgreeCardSaid : Prop := Claim7.holds Tryd.pinned (.plain (OpenSpec.ofChange fnHeadsAgreeSpec)) fnHeadsAgreeCard

/-- THE SECOND FORM's CARD OF 'laws.FnReadLength'. -/
def fnReadLengthUptoCard : Claim7 := { stood := { row := fnReadLengthUptoRow, standIns := [], harness := (true, "a81a2e7fab7c01480124e7d6f85bbf961873f1db55a2858e4b47e750588c0cb3"), looks := true }, kinds := [], alts := [], laidByText := true, laidKinds := [.sentinel, .sentinel, .sentinel], laidTests := true, laidLooks := .later }
def FnReadLengthUptoCardSaid : Prop := Claim7.holds Tryd.pinned (.plain (OpenSpec.upto fnReadLengthSpec)) fnReadLengthUptoCard

/-- THE SECOND FORM's CARD OF 'laws.FnReadOid'. -/
def fnReadOidUptoCard : Claim7 := { stood := { row := fnReadOidUptoRow, standIns := [], harness := (true, "a81a2e7fab7c01480124e7d6f85bbf961873f1db55a2858e4b47e750588c0cb3"), looks := true }, kinds := [], alts := [], laidByText := true, laidKinds := [.sentinel, .sentinel, .sentinel], laidTests := true, laidLooks := .later }
def FnReadOidUptoCardSaid : Prop := Claim7.holds Tryd.pinned (.plain (OpenSpec.upto fnReadOidSpec)) fnReadOidUptoCard

/-- THE SECOND FORM's CARD OF 'laws.FnReadAnyMpi'. -/
def fnReadAnyMpiUptoCard : Claim7 := { stood := { row := fnReadAnyMpiUptoRow, standIns := [], harness := (true, "a81a2e7fab7c01480124e7d6f85bbf961873f1db55a2858e4b47e750588c0cb3"), looks := true }, kinds := [], alts := [], laidByText := true, laidKinds := [.sentinel, .sentinel, .sentinel], laidTests := true, laidLooks := .later }
def FnReadAnyMpiUptoCardSaid : Prop := Claim7.holds Tryd.pinned (.plain (OpenSpec.upto fnReadAnyMpiSpec)) fnReadAnyMpiUptoCard

/-- THE SECOND FORM's CARD OF 'laws.FnLengthBack'. -/
def fnLengthBackUptoCard : Claim7 := { stood := { row := fnLengthBackUptoRow, standIns := [], harness := (true, "a81a2e7fab7c01480124e7d6f85bbf961873f1db55a2858e4b47e750588c0cb3"), looks := true }, kinds := [], alts := [], laidByText := true, laidKinds := [.sentinel, .sentinel, .sentinel], laidTests := true, laidLooks := .later }
def FnLengthBackUptoCardSaid : Prop := Claim7.holds Tryd.pinned (.plain (OpenSpec.upto fnLengthBackSpec)) fnLengthBackUptoCard

/-- THE SECOND FORM's CARD OF 'laws.FnWriteSubs'. -/
def fnWriteSubsUptoCard : Claim7 := { stood := { row := fnWriteSubsUptoRow, standIns := [], harness := (true, "a81a2e7fab7c01480124e7d6f85bbf961873f1db55a2858e4b47e750588c0cb3"), looks := true }, kinds := [], alts := [], laidByText := true, laidKinds := [.sentinel, .sentinel], laidTests := true, laidLooks := .later }
def FnWriteSubsUptoCardSaid : Prop := Claim7.holds Tryd.pinned (.plain (OpenSpec.upto fnWriteSubsSpec)) fnWriteSubsUptoCard

/-- THE SECOND FORM's CARD OF 'laws.FnReadAttribute'. -/
def fnReadAttributeUptoCard : Claim7 := { stood := { row := fnReadAttributeUptoRow, standIns := [], harness := (true, "a81a2e7fab7c01480124e7d6f85bbf961873f1db55a2858e4b47e750588c0cb3"), looks := true }, kinds := [], alts := [], laidByText := true, laidKinds := [.sentinel, .sentinel], laidTests := true, laidLooks := .later }
def FnReadAttributeUptoCardSaid : Prop := Claim7.holds Tryd.pinned (.plain (OpenSpec.upto fnReadAttributeSpec)) fnReadAttributeUptoCard

/-- THE SECOND FORM's CARD OF 'laws.FnMarker'. -/
def fnMarkerUptoCard : Claim7 := { stood := { row := fnMarkerUptoRow, standIns := [], harness := (true, "a81a2e7fab7c01480124e7d6f85bbf961873f1db55a2858e4b47e750588c0cb3"), looks := true }, kinds := [], alts := [], laidByText := true, laidKinds := [.sentinel, .sentinel], laidTests := true, laidLooks := .later }
def FnMarkerUptoCardSaid : Prop := Claim7.holds Tryd.pinned (.plain (OpenSpec.upto fnMarkerSpec)) fnMarkerUptoCard

/-- THE SECOND FORM's CARD OF 'laws.FnBodyReads'. -/
def fnBodyReadsUptoCard : Claim7 := { stood := { row := fnBodyReadsUptoRow, standIns := [], harness := (true, "a81a2e7fab7c01480124e7d6f85bbf961873f1db55a2858e4b47e750588c0cb3"), looks := true }, kinds := [], alts := [], laidByText := true, laidKinds := [.sentinel, .sentinel, .sentinel], laidTests := true, laidLooks := .later }
def FnBodyReadsUptoCardSaid : Prop := Claim7.holds Tryd.pinned (.plain (OpenSpec.upto fnBodyReadsSpec)) fnBodyReadsUptoCard

/-- THE SECOND FORM's CARD OF 'laws.FnOpaqueBack'. -/
def fnOpaqueBackUptoCard : Claim7 := { stood := { row := fnOpaqueBackUptoRow, standIns := [], harness := (true, "a81a2e7fab7c01480124e7d6f85bbf961873f1db55a2858e4b47e750588c0cb3"), looks := true }, kinds := [], alts := [], laidByText := true, laidKinds := [.sentinel, .sentinel, .sentinel], laidTests := true, laidLooks := .later }
def FnOpaqueBackUptoCardSaid : Prop := Claim7.holds Tryd.pinned (.plain (OpenSpec.upto fnOpaqueBackSpec)) fnOpaqueBackUptoCard

/-- THE SECOND FORM's CARD OF 'laws.FnReadLiteral'. -/
def fnReadLiteralUptoCard : Claim7 := { stood := { row := fnReadLiteralUptoRow, standIns := [], harness := (true, "a81a2e7fab7c01480124e7d6f85bbf961873f1db55a2858e4b47e750588c0cb3"), looks := true }, kinds := [], alts := [], laidByText := true, laidKinds := [.sentinel, .sentinel, .sentinel], laidTests := true, laidLooks := .later }
def FnReadLiteralUptoCardSaid : Prop := Claim7.holds Tryd.pinned (.plain (OpenSpec.upto fnReadLiteralSpec)) fnReadLiteralUptoCard

/-- THE SECOND FORM's CARD OF 'laws.FnHeadBack'. -/
def fnHeadBackUptoCard : Claim7 := { stood := { row := fnHeadBackUptoRow, standIns := [], harness := (true, "a81a2e7fab7c01480124e7d6f85bbf961873f1db55a2858e4b47e750588c0cb3"), looks := true }, kinds := [], alts := [], laidByText := true, laidKinds := [.sentinel, .sentinel, .sentinel], laidTests := true, laidLooks := .later }
def FnHeadBackUptoCardSaid : Prop := Claim7.holds Tryd.pinned (.plain (OpenSpec.upto fnHeadBackSpec)) fnHeadBackUptoCard

/-- THE SECOND FORM's CARD OF 'laws.FnHeadsAgree'. -/
def fnHeadsAgreeUptoCard : Claim7 := { stood := { row := fnHeadsAgreeUptoRow, standIns := [], harness := (true, "a81a2e7fab7c01480124e7d6f85bbf961873f1db55a2858e4b47e750588c0cb3"), looks := true }, kinds := [], alts := [], laidByText := true, laidKinds := [.sentinel, .sentinel, .sentinel], laidTests := true, laidLooks := .later }
def FnHeadsAgreeUptoCardSaid : Prop := Claim7.holds Tryd.pinned (.plain (OpenSpec.upto fnHeadsAgreeSpec)) fnHeadsAgreeUptoCard
end Rows
end Go.Proofs.YtfhefoaieefnkaaDoor
