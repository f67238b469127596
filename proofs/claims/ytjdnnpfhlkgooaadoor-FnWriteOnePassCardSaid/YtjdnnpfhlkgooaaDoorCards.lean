/-
  DERIVED. GIVEN WITH THE SEED: THE CARDS: each row of YtjdnnpfhlkgooaaDoorRows.lean that lists a variable, with what it lists TIED to the program's text (the seventh form; the later family's looks); each row that meets fmt, with fmt's text TOLD by the authors' own Lean function (tested against real Go, not proved from fmt's source: count such statements apart). THE CARD IS WHAT COUNTS. Prove the row's statement (the work); the ties are given (YtjdnnpfhlkgooaaDoorTie.lean); close each card by the builder's one call (the guide's Derived/Test/ToyasCard.lean, 'card_holds'). Laid BY PROGRAM, IN A SANDBOX (cutbox-door.mjs). By AI agents, Wed Nov 11 2026. No macro, syntax, notation, axiom, sorry.
-/
import Derived.Test.YtjdnnpfhlkgooaaDoorRows
import GoSem.ClaimSeven
namespace Go.Proofs.YtjdnnpfhlkgooaaDoor
namespace Rows

/-- THE TIED CARD OF 'laws.FnBodyReads'. -/
def fnBodyReadsCard : Claim7 := { stood := { row := fnBodyReadsRow, standIns := [], harness := (true, "a51725978189a0177645162e9e070d6423dd5bdba23ecee082daa10c339543cf"), looks := true }, kinds := [], alts := [], laidByText := true, laidKinds := [.sentinel, .sentinel, .sentinel], laidTests := true, laidLooks := .later }
def FnBodyReadsCardSaid : Prop := Claim7.holds Tryd.pinned (.plain (OpenSpec.ofChange fnBodyReadsSpec)) fnBodyReadsCard

/-- THE TIED CARD OF 'laws.FnWriteOnePass'. -/
def fnWriteOnePassCard : Claim7 := { stood := { row := fnWriteOnePassRow, standIns := [], harness := (true, "a51725978189a0177645162e9e070d6423dd5bdba23ecee082daa10c339543cf"), looks := true }, kinds := [], alts := [], laidByText := true, laidKinds := [.data, .data, .data, .sentinel, .sentinel], laidTests := true, laidLooks := .later }
def FnWriteOnePassCardSaid : Prop := Claim7.holds Tryd.pinned (.plain (OpenSpec.ofChange fnWriteOnePassSpec)) fnWriteOnePassCard

/-- THE TIED CARD OF 'laws.FnOnePassBack'. -/
def fnOnePassBackCard : Claim7 := { stood := { row := fnOnePassBackRow, standIns := [], harness := (true, "a51725978189a0177645162e9e070d6423dd5bdba23ecee082daa10c339543cf"), looks := true }, kinds := [], alts := [], laidByText := true, laidKinds := [.data, .data, .data, .sentinel, .sentinel], laidTests := true, laidLooks := .later }
def FnOnePassBackCardSaid : Prop := Claim7.holds Tryd.pinned (.plain (OpenSpec.ofChange fnOnePassBackSpec)) fnOnePassBackCard

/-- THE TIED CARD OF 'laws.FnWriteS2k'. -/
def fnWriteS2kCard : Claim7 := { stood := { row := fnWriteS2kRow, standIns := [], harness := (true, "a51725978189a0177645162e9e070d6423dd5bdba23ecee082daa10c339543cf"), looks := true }, kinds := [], alts := [], laidByText := true, laidKinds := [.sentinel, .sentinel, .sentinel], laidTests := true, laidLooks := .later }
def FnWriteS2kCardSaid : Prop := Claim7.holds Tryd.pinned (.plain (OpenSpec.ofChange fnWriteS2kSpec)) fnWriteS2kCard

/-- THE TIED CARD OF 'laws.FnStreamBack'. -/
def fnStreamBackCard : Claim7 := { stood := { row := fnStreamBackRow, standIns := [], harness := (true, "a51725978189a0177645162e9e070d6423dd5bdba23ecee082daa10c339543cf"), looks := true }, kinds := [], alts := [], laidByText := true, laidKinds := [.sentinel, .sentinel, .sentinel], laidTests := true, laidLooks := .later }
def FnStreamBackCardSaid : Prop := Claim7.holds Tryd.pinned (.plain (OpenSpec.ofChange fnStreamBackSpec)) fnStreamBackCard

/-- THE TIED CARD OF 'laws.FnUserBack'. -/
def fnUserBackCard : Claim7 := { stood := { row := fnUserBackRow, standIns := [], harness := (true, "a51725978189a0177645162e9e070d6423dd5bdba23ecee082daa10c339543cf"), looks := true }, kinds := [], alts := [], laidByText := true, laidKinds := [.data, .pinned], laidTests := true, laidLooks := .later }
def FnUserBackCardSaid : Prop := Claim7.holds Tryd.pinned (.plain (OpenSpec.ofChange fnUserBackSpec)) fnUserBackCard

/-- THE SECOND FORM's CARD OF 'laws.FnBodyReads'. -/
def fnBodyReadsUptoCard : Claim7 := { stood := { row := fnBodyReadsUptoRow, standIns := [], harness := (true, "a51725978189a0177645162e9e070d6423dd5bdba23ecee082daa10c339543cf"), looks := true }, kinds := [], alts := [], laidByText := true, laidKinds := [.sentinel, .sentinel, .sentinel], laidTests := true, laidLooks := .later }
def FnBodyReadsUptoCardSaid : Prop := Claim7.holds Tryd.pinned (.plain (OpenSpec.upto fnBodyReadsSpec)) fnBodyReadsUptoCard

/-- THE SECOND FORM's CARD OF 'laws.FnWriteOnePass'. -/
def fnWriteOnePassUptoCard : Claim7 := { stood := { row := fnWriteOnePassUptoRow, standIns := [], harness := (true, "a51725978189a0177645162e9e070d6423dd5bdba23ecee082daa10c339543cf"), looks := true }, kinds := [], alts := [], laidByText := true, laidKinds := [.data, .data, .data, .sentinel, .sentinel], laidTests := true, laidLooks := .later }
def FnWriteOnePassUptoCardSaid : Prop := Claim7.holds Tryd.pinned (.plain (OpenSpec.upto fnWriteOnePassSpec)) fnWriteOnePassUptoCard

/-- THE SECOND FORM's CARD OF 'laws.FnOnePassBack'. -/
def fnOnePassBackUptoCard : Claim7 := { stood := { row := fnOnePassBackUptoRow, standIns := [], harness := (true, "a51725978189a0177645162e9e070d6423dd5bdba23ecee082daa10c339543cf"), looks := true }, kinds := [], alts := [], laidByText := true, laidKinds := [.data, .data, .data, .sentinel, .sentinel], laidTests := true, laidLooks := .later }
def FnOnePassBackUptoCardSaid : Prop := Claim7.holds Tryd.pinned (.plain (OpenSpec.upto fnOnePassBackSpec)) fnOnePassBackUptoCard

/-- THE SECOND FORM's CARD OF 'laws.FnWriteS2k'. -/
def fnWriteS2kUptoCard : Claim7 := { stood := { row := fnWriteS2kUptoRow, standIns := [], harness := (true, "a51725978189a0177645162e9e070d6423dd5bdba23ecee082daa10c339543cf"), looks := true }, kinds := [], alts := [], laidByText := true, laidKinds := [.sentinel, .sentinel, .sentinel], laidTests := true, laidLooks := .later }
def FnWriteS2kUptoCardSaid : Prop := Claim7.holds Tryd.pinned (.plain (OpenSpec.upto fnWriteS2kSpec)) fnWriteS2kUptoCard

/-- THE SECOND FORM's CARD OF 'laws.FnStreamBack'. -/
def fnStreamBackUptoCard : Claim7 := { stood := { row := fnStreamBackUptoRow, standIns := [], harness := (true, "a51725978189a0177645162e9e070d6423dd5bdba23ecee082daa10c339543cf"), looks := true }, kinds := [], alts := [], laidByText := true, laidKinds := [.sentinel, .sentinel, .sentinel], laidTests := true, laidLooks := .later }
def FnStreamBackUptoCardSaid : Prop := Claim7.holds Tryd.pinned (.plain (OpenSpec.upto fnStreamBackSpec)) fnStreamBackUptoCard

/-- THE SECOND FORM's CARD OF 'laws.FnUserBack'. -/
def fnUserBackUptoCard : Claim7 := { stood := { row := fnUserBackUptoRow, standIns := [], harness := (true, "a51725978189a0177645162e9e070d6423dd5bdba23ecee082daa10c339543cf"), looks := true }, kinds := [], alts := [], laidByText := true, laidKinds := [.data, .pinned], laidTests := true, laidLooks := .later }
def FnUserBackUptoCardSaid : Prop := Claim7.holds Tryd.pinned (.plain (OpenSpec.upto fnUserBackSpec)) fnUserBackUptoCard
end Rows
end Go.Proofs.YtjdnnpfhlkgooaaDoor
