/-
  DERIVED. GIVEN WITH THE SEED: THE CARDS: each row of YtkjpkenhpmjikaaDoorRows.lean that lists a variable, with what it lists TIED to the program's text (the seventh form; the later family's looks); each row that meets fmt, with fmt's text TOLD by the authors' own Lean function (tested against real Go, not proved from fmt's source: count such statements apart). THE CARD IS WHAT COUNTS. Prove the row's statement (the work); the ties are given (YtkjpkenhpmjikaaDoorTie.lean); close each card by the builder's one call (the guide's Derived/Test/ToyasCard.lean, 'card_holds'). Laid BY PROGRAM, IN A SANDBOX (cutbox-door.mjs). By AI agents, Wed Nov 11 2026. No macro, syntax, notation, axiom, sorry.
-/
import Derived.Test.YtkjpkenhpmjikaaDoorRows
import GoSem.ClaimSeven
namespace Go.Proofs.YtkjpkenhpmjikaaDoor
namespace Rows

/-- THE TIED CARD OF 'laws.FnGroupsCut'. -/
def fnGroupsCutCard : Claim7 := { stood := { row := fnGroupsCutRow, standIns := [], harness := (true, "3e8973155fdc2dc6119606825e1eec30bb199a9159dd2087e51ad6337c355be8"), looks := false }, kinds := [], alts := [], laidByText := true, laidKinds := [.sentinel, .sentinel, .sentinel], laidTests := true, laidLooks := .later }
def FnGroupsCutCardSaid : Prop := Claim7.holds Tryd.pinned (.plain (OpenSpec.ofChange fnGroupsCutSpec)) fnGroupsCutCard

/-- THE TIED CARD OF 'laws.FnSRTPCut'. -/
def fnSRTPCutCard : Claim7 := { stood := { row := fnSRTPCutRow, standIns := [], harness := (true, "3e8973155fdc2dc6119606825e1eec30bb199a9159dd2087e51ad6337c355be8"), looks := false }, kinds := [], alts := [], laidByText := true, laidKinds := [.sentinel, .sentinel, .sentinel], laidTests := true, laidLooks := .later }
def FnSRTPCutCardSaid : Prop := Claim7.holds Tryd.pinned (.plain (OpenSpec.ofChange fnSRTPCutSpec)) fnSRTPCutCard

/-- THE TIED CARD OF 'laws.FnCookieCut'. -/
def fnCookieCutCard : Claim7 := { stood := { row := fnCookieCutRow, standIns := [], harness := (true, "3e8973155fdc2dc6119606825e1eec30bb199a9159dd2087e51ad6337c355be8"), looks := false }, kinds := [], alts := [], laidByText := true, laidKinds := [.sentinel, .sentinel, .sentinel, .sentinel], laidTests := true, laidLooks := .later }
def FnCookieCutCardSaid : Prop := Claim7.holds Tryd.pinned (.plain (OpenSpec.ofChange fnCookieCutSpec)) fnCookieCutCard

/-- THE TIED CARD OF 'laws.FnEarlyDataBack'. -/
def fnEarlyDataBackCard : Claim7 := { stood := { row := fnEarlyDataBackRow, standIns := [], harness := (true, "3e8973155fdc2dc6119606825e1eec30bb199a9159dd2087e51ad6337c355be8"), looks := false }, kinds := [], alts := [], laidByText := true, laidKinds := [.sentinel, .sentinel, .sentinel], laidTests := true, laidLooks := .later }
def FnEarlyDataBackCardSaid : Prop := Claim7.holds Tryd.pinned (.plain (OpenSpec.ofChange fnEarlyDataBackSpec)) fnEarlyDataBackCard

/-- THE TIED CARD OF 'laws.FnPskModesCut'. -/
def fnPskModesCutCard : Claim7 := { stood := { row := fnPskModesCutRow, standIns := [], harness := (true, "3e8973155fdc2dc6119606825e1eec30bb199a9159dd2087e51ad6337c355be8"), looks := false }, kinds := [], alts := [], laidByText := true, laidKinds := [.sentinel, .sentinel, .sentinel, .sentinel], laidTests := true, laidLooks := .later }
def FnPskModesCutCardSaid : Prop := Claim7.holds Tryd.pinned (.plain (OpenSpec.ofChange fnPskModesCutSpec)) fnPskModesCutCard

/-- THE TIED CARD OF 'laws.FnConnectionIDBack'. -/
def fnConnectionIDBackCard : Claim7 := { stood := { row := fnConnectionIDBackRow, standIns := [], harness := (true, "3e8973155fdc2dc6119606825e1eec30bb199a9159dd2087e51ad6337c355be8"), looks := false }, kinds := [], alts := [], laidByText := true, laidKinds := [.sentinel, .sentinel, .sentinel, .sentinel], laidTests := true, laidLooks := .later }
def FnConnectionIDBackCardSaid : Prop := Claim7.holds Tryd.pinned (.plain (OpenSpec.ofChange fnConnectionIDBackSpec)) fnConnectionIDBackCard

/-- THE TIED CARD OF 'laws.FnServerNameBack'. -/
def fnServerNameBackCard : Claim7 := { stood := { row := fnServerNameBackRow, standIns := [], harness := (true, "3e8973155fdc2dc6119606825e1eec30bb199a9159dd2087e51ad6337c355be8"), looks := false }, kinds := [], alts := [], laidByText := true, laidKinds := [.sentinel, .sentinel, .sentinel, .sentinel], laidTests := true, laidLooks := .later }
def FnServerNameBackCardSaid : Prop := Claim7.holds Tryd.pinned (.plain (OpenSpec.ofChange fnServerNameBackSpec)) fnServerNameBackCard

/-- THE TIED CARD OF 'laws.FnSupportedVersionsCut'. -/
def fnSupportedVersionsCutCard : Claim7 := { stood := { row := fnSupportedVersionsCutRow, standIns := [], harness := (true, "3e8973155fdc2dc6119606825e1eec30bb199a9159dd2087e51ad6337c355be8"), looks := false }, kinds := [], alts := [], laidByText := true, laidKinds := [.sentinel, .sentinel, .sentinel, .sentinel], laidTests := true, laidLooks := .later }
def FnSupportedVersionsCutCardSaid : Prop := Claim7.holds Tryd.pinned (.plain (OpenSpec.ofChange fnSupportedVersionsCutSpec)) fnSupportedVersionsCutCard

/-- THE TIED CARD OF 'laws.FnKeyShareGroupBack'. -/
def fnKeyShareGroupBackCard : Claim7 := { stood := { row := fnKeyShareGroupBackRow, standIns := [], harness := (true, "3e8973155fdc2dc6119606825e1eec30bb199a9159dd2087e51ad6337c355be8"), looks := false }, kinds := [], alts := [], laidByText := true, laidKinds := [.sentinel, .sentinel, .sentinel, .sentinel], laidTests := true, laidLooks := .later }
def FnKeyShareGroupBackCardSaid : Prop := Claim7.holds Tryd.pinned (.plain (OpenSpec.ofChange fnKeyShareGroupBackSpec)) fnKeyShareGroupBackCard

/-- THE TIED CARD OF 'laws.FnSignatureAlgorithmsCertBack'. -/
def fnSignatureAlgorithmsCertBackCard : Claim7 := { stood := { row := fnSignatureAlgorithmsCertBackRow, standIns := [], harness := (true, "3e8973155fdc2dc6119606825e1eec30bb199a9159dd2087e51ad6337c355be8"), looks := false }, kinds := [], alts := [], laidByText := true, laidKinds := [.sentinel, .sentinel, .sentinel, .sentinel, .sentinel], laidTests := true, laidLooks := .later }
def FnSignatureAlgorithmsCertBackCardSaid : Prop := Claim7.holds Tryd.pinned (.plain (OpenSpec.ofChange fnSignatureAlgorithmsCertBackSpec)) fnSignatureAlgorithmsCertBackCard

/-- THE TIED CARD OF 'laws.FnCertificateCut'. -/
def fnCertificateCutCard : Claim7 := { stood := { row := fnCertificateCutRow, standIns := [], harness := (true, "3e8973155fdc2dc6119606825e1eec30bb199a9159dd2087e51ad6337c355be8"), looks := false }, kinds := [], alts := [], laidByText := true, laidKinds := [.sentinel, .sentinel], laidTests := true, laidLooks := .later }
def FnCertificateCutCardSaid : Prop := Claim7.holds Tryd.pinned (.plain (OpenSpec.ofChange fnCertificateCutSpec)) fnCertificateCutCard

/-- THE TIED CARD OF 'laws.FnHandshakeHeaderRead'. -/
def fnHandshakeHeaderReadCard : Claim7 := { stood := { row := fnHandshakeHeaderReadRow, standIns := [], harness := (true, "3e8973155fdc2dc6119606825e1eec30bb199a9159dd2087e51ad6337c355be8"), looks := false }, kinds := [], alts := [], laidByText := true, laidKinds := [.sentinel], laidTests := true, laidLooks := .later }
def FnHandshakeHeaderReadCardSaid : Prop := Claim7.holds Tryd.pinned (.plain (OpenSpec.ofChange fnHandshakeHeaderReadSpec)) fnHandshakeHeaderReadCard

/-- THE SECOND FORM's CARD OF 'laws.FnGroupsCut'. -/
def fnGroupsCutUptoCard : Claim7 := { stood := { row := fnGroupsCutUptoRow, standIns := [], harness := (true, "3e8973155fdc2dc6119606825e1eec30bb199a9159dd2087e51ad6337c355be8"), looks := false }, kinds := [], alts := [], laidByText := true, laidKinds := [.sentinel, .sentinel, .sentinel], laidTests := true, laidLooks := .later }
def FnGroupsCutUptoCardSaid : Prop := Claim7.holds Tryd.pinned (.plain (OpenSpec.upto fnGroupsCutSpec)) fnGroupsCutUptoCard

/-- THE SECOND FORM's CARD OF 'laws.FnSRTPCut'. -/
def fnSRTPCutUptoCard : Claim7 := { stood := { row := fnSRTPCutUptoRow, standIns := [], harness := (true, "3e8973155fdc2dc6119606825e1eec30bb199a9159dd2087e51ad6337c355be8"), looks := false }, kinds := [], alts := [], laidByText := true, laidKinds := [.sentinel, .sentinel, .sentinel], laidTests := true, laidLooks := .later }
def FnSRTPCutUptoCardSaid : Prop := Claim7.holds Tryd.pinned (.plain (OpenSpec.upto fnSRTPCutSpec)) fnSRTPCutUptoCard

/-- THE SECOND FORM's CARD OF 'laws.FnCookieCut'. -/
def fnCookieCutUptoCard : Claim7 := { stood := { row := fnCookieCutUptoRow, standIns := [], harness := (true, "3e8973155fdc2dc6119606825e1eec30bb199a9159dd2087e51ad6337c355be8"), looks := false }, kinds := [], alts := [], laidByText := true, laidKinds := [.sentinel, .sentinel, .sentinel, .sentinel], laidTests := true, laidLooks := .later }
def FnCookieCutUptoCardSaid : Prop := Claim7.holds Tryd.pinned (.plain (OpenSpec.upto fnCookieCutSpec)) fnCookieCutUptoCard

/-- THE SECOND FORM's CARD OF 'laws.FnEarlyDataBack'. -/
def fnEarlyDataBackUptoCard : Claim7 := { stood := { row := fnEarlyDataBackUptoRow, standIns := [], harness := (true, "3e8973155fdc2dc6119606825e1eec30bb199a9159dd2087e51ad6337c355be8"), looks := false }, kinds := [], alts := [], laidByText := true, laidKinds := [.sentinel, .sentinel, .sentinel], laidTests := true, laidLooks := .later }
def FnEarlyDataBackUptoCardSaid : Prop := Claim7.holds Tryd.pinned (.plain (OpenSpec.upto fnEarlyDataBackSpec)) fnEarlyDataBackUptoCard

/-- THE SECOND FORM's CARD OF 'laws.FnPskModesCut'. -/
def fnPskModesCutUptoCard : Claim7 := { stood := { row := fnPskModesCutUptoRow, standIns := [], harness := (true, "3e8973155fdc2dc6119606825e1eec30bb199a9159dd2087e51ad6337c355be8"), looks := false }, kinds := [], alts := [], laidByText := true, laidKinds := [.sentinel, .sentinel, .sentinel, .sentinel], laidTests := true, laidLooks := .later }
def FnPskModesCutUptoCardSaid : Prop := Claim7.holds Tryd.pinned (.plain (OpenSpec.upto fnPskModesCutSpec)) fnPskModesCutUptoCard

/-- THE SECOND FORM's CARD OF 'laws.FnConnectionIDBack'. -/
def fnConnectionIDBackUptoCard : Claim7 := { stood := { row := fnConnectionIDBackUptoRow, standIns := [], harness := (true, "3e8973155fdc2dc6119606825e1eec30bb199a9159dd2087e51ad6337c355be8"), looks := false }, kinds := [], alts := [], laidByText := true, laidKinds := [.sentinel, .sentinel, .sentinel, .sentinel], laidTests := true, laidLooks := .later }
def FnConnectionIDBackUptoCardSaid : Prop := Claim7.holds Tryd.pinned (.plain (OpenSpec.upto fnConnectionIDBackSpec)) fnConnectionIDBackUptoCard

/-- THE SECOND FORM's CARD OF 'laws.FnServerNameBack'. -/
def fnServerNameBackUptoCard : Claim7 := { stood := { row := fnServerNameBackUptoRow, standIns := [], harness := (true, "3e8973155fdc2dc6119606825e1eec30bb199a9159dd2087e51ad6337c355be8"), looks := false }, kinds := [], alts := [], laidByText := true, laidKinds := [.sentinel, .sentinel, .sentinel, .sentinel], laidTests := true, laidLooks := .later }
def FnServerNameBackUptoCardSaid : Prop := Claim7.holds Tryd.pinned (.plain (OpenSpec.upto fnServerNameBackSpec)) fnServerNameBackUptoCard

/-- THE SECOND FORM's CARD OF 'laws.FnSupportedVersionsCut'. -/
def fnSupportedVersionsCutUptoCard : Claim7 := { stood := { row := fnSupportedVersionsCutUptoRow, standIns := [], harness := (true, "3e8973155fdc2dc6119606825e1eec30bb199a9159dd2087e51ad6337c355be8"), looks := false }, kinds := [], alts := [], laidByText := true, laidKinds := [.sentinel, .sentinel, .sentinel, .sentinel], laidTests := true, laidLooks := .later }
def FnSupportedVersionsCutUptoCardSaid : Prop := Claim7.holds Tryd.pinned (.plain (OpenSpec.upto fnSupportedVersionsCutSpec)) fnSupportedVersionsCutUptoCard

/-- THE SECOND FORM's CARD OF 'laws.FnKeyShareGroupBack'. -/
def fnKeyShareGroupBackUptoCard : Claim7 := { stood := { row := fnKeyShareGroupBackUptoRow, standIns := [], harness := (true, "3e8973155fdc2dc6119606825e1eec30bb199a9159dd2087e51ad6337c355be8"), looks := false }, kinds := [], alts := [], laidByText := true, laidKinds := [.sentinel, .sentinel, .sentinel, .sentinel], laidTests := true, laidLooks := .later }
def FnKeyShareGroupBackUptoCardSaid : Prop := Claim7.holds Tryd.pinned (.plain (OpenSpec.upto fnKeyShareGroupBackSpec)) fnKeyShareGroupBackUptoCard

/-- THE SECOND FORM's CARD OF 'laws.FnSignatureAlgorithmsCertBack'. -/
def fnSignatureAlgorithmsCertBackUptoCard : Claim7 := { stood := { row := fnSignatureAlgorithmsCertBackUptoRow, standIns := [], harness := (true, "3e8973155fdc2dc6119606825e1eec30bb199a9159dd2087e51ad6337c355be8"), looks := false }, kinds := [], alts := [], laidByText := true, laidKinds := [.sentinel, .sentinel, .sentinel, .sentinel, .sentinel], laidTests := true, laidLooks := .later }
def FnSignatureAlgorithmsCertBackUptoCardSaid : Prop := Claim7.holds Tryd.pinned (.plain (OpenSpec.upto fnSignatureAlgorithmsCertBackSpec)) fnSignatureAlgorithmsCertBackUptoCard

/-- THE SECOND FORM's CARD OF 'laws.FnCertificateCut'. -/
def fnCertificateCutUptoCard : Claim7 := { stood := { row := fnCertificateCutUptoRow, standIns := [], harness := (true, "3e8973155fdc2dc6119606825e1eec30bb199a9159dd2087e51ad6337c355be8"), looks := false }, kinds := [], alts := [], laidByText := true, laidKinds := [.sentinel, .sentinel], laidTests := true, laidLooks := .later }
def FnCertificateCutUptoCardSaid : Prop := Claim7.holds Tryd.pinned (.plain (OpenSpec.upto fnCertificateCutSpec)) fnCertificateCutUptoCard

/-- THE SECOND FORM's CARD OF 'laws.FnHandshakeHeaderRead'. -/
def fnHandshakeHeaderReadUptoCard : Claim7 := { stood := { row := fnHandshakeHeaderReadUptoRow, standIns := [], harness := (true, "3e8973155fdc2dc6119606825e1eec30bb199a9159dd2087e51ad6337c355be8"), looks := false }, kinds := [], alts := [], laidByText := true, laidKinds := [.sentinel], laidTests := true, laidLooks := .later }
def FnHandshakeHeaderReadUptoCardSaid : Prop := Claim7.holds Tryd.pinned (.plain (OpenSpec.upto fnHandshakeHeaderReadSpec)) fnHandshakeHeaderReadUptoCard
end Rows
end Go.Proofs.YtkjpkenhpmjikaaDoor
