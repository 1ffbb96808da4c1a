/-
  DERIVED. GIVEN WITH THE SEED: THE CARDS: each row of YtmappdbodnlepaaDoorRows.lean that lists a variable, with what it lists TIED to the program's text (the seventh form; the later family's looks); each row that meets fmt, with fmt's text TOLD by the authors' own Lean function (tested against real Go, not proved from fmt's source: count such statements apart). THE CARD IS WHAT COUNTS. Prove the row's statement (the work); the ties are given (YtmappdbodnlepaaDoorTie.lean); close each card by the builder's one call (the guide's Derived/Test/ToyasCard.lean, 'card_holds'). Laid BY PROGRAM, IN A SANDBOX (cutbox-door.mjs). By AI agents, Wed Nov 11 2026. No macro, syntax, notation, axiom, sorry.
-/
import Derived.Test.YtmappdbodnlepaaDoorRows
import GoSem.ClaimSeven
namespace Go.Proofs.YtmappdbodnlepaaDoor
namespace Rows

/-- THE TIED CARD OF 'laws.FnHeaderBack'. -/
def fnHeaderBackCard : Claim7 := { stood := { row := fnHeaderBackRow, standIns := [], harness := (true, "41914a2ff5468c2cd7a71fb7ca5e36021237b037fe15ea40d4db026a2615582a"), looks := false }, kinds := [], alts := [], laidByText := true, laidKinds := [.data, .data, .sentinel, .sentinel, .sentinel], laidTests := true, laidLooks := .later }
def FnHeaderBackCardSaid : Prop := Claim7.holds Tryd.pinned (.plain (OpenSpec.ofChange fnHeaderBackSpec)) fnHeaderBackCard

/-- THE TIED CARD OF 'laws.FnServerKeyEcdheWrite'. -/
def fnServerKeyEcdheWriteCard : Claim7 := { stood := { row := fnServerKeyEcdheWriteRow, standIns := [], harness := (true, "41914a2ff5468c2cd7a71fb7ca5e36021237b037fe15ea40d4db026a2615582a"), looks := false }, kinds := [], alts := [], laidByText := true, laidKinds := [.sentinel], laidTests := true, laidLooks := .later }
def FnServerKeyEcdheWriteCardSaid : Prop := Claim7.holds Tryd.pinned (.plain (OpenSpec.ofChange fnServerKeyEcdheWriteSpec)) fnServerKeyEcdheWriteCard

/-- THE TIED CARD OF 'laws.FnCertificateVerifyWrite'. -/
def fnCertificateVerifyWriteCard : Claim7 := { stood := { row := fnCertificateVerifyWriteRow, standIns := [], harness := (true, "41914a2ff5468c2cd7a71fb7ca5e36021237b037fe15ea40d4db026a2615582a"), looks := false }, kinds := [], alts := [], laidByText := true, laidKinds := [.sentinel, .sentinel, .sentinel], laidTests := true, laidLooks := .later }
def FnCertificateVerifyWriteCardSaid : Prop := Claim7.holds Tryd.pinned (.plain (OpenSpec.ofChange fnCertificateVerifyWriteSpec)) fnCertificateVerifyWriteCard

/-- THE TIED CARD OF 'laws.FnServerKeyBothBack'. -/
def fnServerKeyBothBackCard : Claim7 := { stood := { row := fnServerKeyBothBackRow, standIns := [], harness := (true, "41914a2ff5468c2cd7a71fb7ca5e36021237b037fe15ea40d4db026a2615582a"), looks := false }, kinds := [], alts := [], laidByText := true, laidKinds := [.sentinel, .sentinel, .sentinel, .sentinel, .sentinel, .sentinel, .sentinel, .sentinel], laidTests := true, laidLooks := .later }
def FnServerKeyBothBackCardSaid : Prop := Claim7.holds Tryd.pinned (.plain (OpenSpec.ofChange fnServerKeyBothBackSpec)) fnServerKeyBothBackCard

/-- THE TIED CARD OF 'laws.FnSchemes'. -/
def fnSchemesCard : Claim7 := { stood := { row := fnSchemesRow, standIns := [], harness := (true, "41914a2ff5468c2cd7a71fb7ca5e36021237b037fe15ea40d4db026a2615582a"), looks := false }, kinds := [], alts := [], laidByText := true, laidKinds := [.sentinel, .sentinel], laidTests := true, laidLooks := .later }
def FnSchemesCardSaid : Prop := Claim7.holds Tryd.pinned (.plain (OpenSpec.ofChange fnSchemesSpec)) fnSchemesCard

/-- THE SECOND FORM's CARD OF 'laws.FnHeaderBack'. -/
def fnHeaderBackUptoCard : Claim7 := { stood := { row := fnHeaderBackUptoRow, standIns := [], harness := (true, "41914a2ff5468c2cd7a71fb7ca5e36021237b037fe15ea40d4db026a2615582a"), looks := false }, kinds := [], alts := [], laidByText := true, laidKinds := [.data, .data, .sentinel, .sentinel, .sentinel], laidTests := true, laidLooks := .later }
def FnHeaderBackUptoCardSaid : Prop := Claim7.holds Tryd.pinned (.plain (OpenSpec.upto fnHeaderBackSpec)) fnHeaderBackUptoCard

/-- THE SECOND FORM's CARD OF 'laws.FnServerKeyEcdheWrite'. -/
def fnServerKeyEcdheWriteUptoCard : Claim7 := { stood := { row := fnServerKeyEcdheWriteUptoRow, standIns := [], harness := (true, "41914a2ff5468c2cd7a71fb7ca5e36021237b037fe15ea40d4db026a2615582a"), looks := false }, kinds := [], alts := [], laidByText := true, laidKinds := [.sentinel], laidTests := true, laidLooks := .later }
def FnServerKeyEcdheWriteUptoCardSaid : Prop := Claim7.holds Tryd.pinned (.plain (OpenSpec.upto fnServerKeyEcdheWriteSpec)) fnServerKeyEcdheWriteUptoCard

/-- THE SECOND FORM's CARD OF 'laws.FnCertificateVerifyWrite'. -/
def fnCertificateVerifyWriteUptoCard : Claim7 := { stood := { row := fnCertificateVerifyWriteUptoRow, standIns := [], harness := (true, "41914a2ff5468c2cd7a71fb7ca5e36021237b037fe15ea40d4db026a2615582a"), looks := false }, kinds := [], alts := [], laidByText := true, laidKinds := [.sentinel, .sentinel, .sentinel], laidTests := true, laidLooks := .later }
def FnCertificateVerifyWriteUptoCardSaid : Prop := Claim7.holds Tryd.pinned (.plain (OpenSpec.upto fnCertificateVerifyWriteSpec)) fnCertificateVerifyWriteUptoCard

/-- THE SECOND FORM's CARD OF 'laws.FnServerKeyBothBack'. -/
def fnServerKeyBothBackUptoCard : Claim7 := { stood := { row := fnServerKeyBothBackUptoRow, standIns := [], harness := (true, "41914a2ff5468c2cd7a71fb7ca5e36021237b037fe15ea40d4db026a2615582a"), looks := false }, kinds := [], alts := [], laidByText := true, laidKinds := [.sentinel, .sentinel, .sentinel, .sentinel, .sentinel, .sentinel, .sentinel, .sentinel], laidTests := true, laidLooks := .later }
def FnServerKeyBothBackUptoCardSaid : Prop := Claim7.holds Tryd.pinned (.plain (OpenSpec.upto fnServerKeyBothBackSpec)) fnServerKeyBothBackUptoCard

/-- THE SECOND FORM's CARD OF 'laws.FnSchemes'. -/
def fnSchemesUptoCard : Claim7 := { stood := { row := fnSchemesUptoRow, standIns := [], harness := (true, "41914a2ff5468c2cd7a71fb7ca5e36021237b037fe15ea40d4db026a2615582a"), looks := false }, kinds := [], alts := [], laidByText := true, laidKinds := [.sentinel, .sentinel], laidTests := true, laidLooks := .later }
def FnSchemesUptoCardSaid : Prop := Claim7.holds Tryd.pinned (.plain (OpenSpec.upto fnSchemesSpec)) fnSchemesUptoCard
end Rows
end Go.Proofs.YtmappdbodnlepaaDoor
