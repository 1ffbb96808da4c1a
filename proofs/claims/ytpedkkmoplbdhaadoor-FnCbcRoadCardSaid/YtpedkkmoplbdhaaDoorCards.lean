/-
  DERIVED. GIVEN WITH THE SEED: THE CARDS: each row of YtpedkkmoplbdhaaDoorRows.lean that lists a variable, with what it lists TIED to the program's text (the seventh form; the later family's looks); each row that meets fmt, with fmt's text TOLD by the authors' own Lean function (tested against real Go, not proved from fmt's source: count such statements apart). THE CARD IS WHAT COUNTS. Prove the row's statement (the work); the ties are given (YtpedkkmoplbdhaaDoorTie.lean); close each card by the builder's one call (the guide's Derived/Test/ToyasCard.lean, 'card_holds'). Laid BY PROGRAM, IN A SANDBOX (cutbox-door.mjs). By AI agents, Wed Nov 11 2026. No macro, syntax, notation, axiom, sorry.
-/
import Derived.Test.YtpedkkmoplbdhaaDoorRows
import GoSem.ClaimSeven
namespace Go.Proofs.YtpedkkmoplbdhaaDoor
namespace Rows

/-- THE TIED CARD OF 'laws.FnChachaCIDSeal'. -/
def fnChachaCIDSealCard : Claim7 := { stood := { row := fnChachaCIDSealRow, standIns := [], harness := (true, "d53b80530fca991b372febf8a60147cea808990a91a0cf21705c739f67ff2c28"), looks := true }, kinds := [], alts := [], laidByText := true, laidKinds := [.sentinel], laidTests := true, laidLooks := .later }
def FnChachaCIDSealCardSaid : Prop := Claim7.holds Tryd.pinned (.plain (OpenSpec.ofChange fnChachaCIDSealSpec)) fnChachaCIDSealCard

/-- THE TIED CARD OF 'laws.FnCcmOpen'. -/
def fnCcmOpenCard : Claim7 := { stood := { row := fnCcmOpenRow, standIns := [], harness := (true, "d53b80530fca991b372febf8a60147cea808990a91a0cf21705c739f67ff2c28"), looks := true }, kinds := [], alts := [], laidByText := true, laidKinds := [.sentinel, .sentinel, .sentinel], laidTests := true, laidLooks := .later }
def FnCcmOpenCardSaid : Prop := Claim7.holds Tryd.pinned (.plain (OpenSpec.ofChange fnCcmOpenSpec)) fnCcmOpenCard

/-- THE TIED CARD OF 'laws.FnAeadOpen'. -/
def fnAeadOpenCard : Claim7 := { stood := { row := fnAeadOpenRow, standIns := [], harness := (true, "d53b80530fca991b372febf8a60147cea808990a91a0cf21705c739f67ff2c28"), looks := true }, kinds := [], alts := [], laidByText := true, laidKinds := [.data, .data, .sentinel, .sentinel, .sentinel, .sentinel, .sentinel], laidTests := true, laidLooks := .later }
def FnAeadOpenCardSaid : Prop := Claim7.holds Tryd.pinned (.plain (OpenSpec.ofChange fnAeadOpenSpec)) fnAeadOpenCard

/-- THE TIED CARD OF 'laws.FnCbcRoad'. -/
def fnCbcRoadCard : Claim7 := { stood := { row := fnCbcRoadRow, standIns := [], harness := (true, "d53b80530fca991b372febf8a60147cea808990a91a0cf21705c739f67ff2c28"), looks := true }, kinds := [], alts := [], laidByText := true, laidKinds := [.data, .data, .sentinel, .sentinel, .sentinel, .sentinel, .sentinel], laidTests := true, laidLooks := .later }
def FnCbcRoadCardSaid : Prop := Claim7.holds Tryd.pinned (.plain (OpenSpec.ofChange fnCbcRoadSpec)) fnCbcRoadCard

/-- THE SECOND FORM's CARD OF 'laws.FnChachaCIDSeal'. -/
def fnChachaCIDSealUptoCard : Claim7 := { stood := { row := fnChachaCIDSealUptoRow, standIns := [], harness := (true, "d53b80530fca991b372febf8a60147cea808990a91a0cf21705c739f67ff2c28"), looks := true }, kinds := [], alts := [], laidByText := true, laidKinds := [.sentinel], laidTests := true, laidLooks := .later }
def FnChachaCIDSealUptoCardSaid : Prop := Claim7.holds Tryd.pinned (.plain (OpenSpec.upto fnChachaCIDSealSpec)) fnChachaCIDSealUptoCard

/-- THE SECOND FORM's CARD OF 'laws.FnCcmOpen'. -/
def fnCcmOpenUptoCard : Claim7 := { stood := { row := fnCcmOpenUptoRow, standIns := [], harness := (true, "d53b80530fca991b372febf8a60147cea808990a91a0cf21705c739f67ff2c28"), looks := true }, kinds := [], alts := [], laidByText := true, laidKinds := [.sentinel, .sentinel, .sentinel], laidTests := true, laidLooks := .later }
def FnCcmOpenUptoCardSaid : Prop := Claim7.holds Tryd.pinned (.plain (OpenSpec.upto fnCcmOpenSpec)) fnCcmOpenUptoCard

/-- THE SECOND FORM's CARD OF 'laws.FnAeadOpen'. -/
def fnAeadOpenUptoCard : Claim7 := { stood := { row := fnAeadOpenUptoRow, standIns := [], harness := (true, "d53b80530fca991b372febf8a60147cea808990a91a0cf21705c739f67ff2c28"), looks := true }, kinds := [], alts := [], laidByText := true, laidKinds := [.data, .data, .sentinel, .sentinel, .sentinel, .sentinel, .sentinel], laidTests := true, laidLooks := .later }
def FnAeadOpenUptoCardSaid : Prop := Claim7.holds Tryd.pinned (.plain (OpenSpec.upto fnAeadOpenSpec)) fnAeadOpenUptoCard

/-- THE SECOND FORM's CARD OF 'laws.FnCbcRoad'. -/
def fnCbcRoadUptoCard : Claim7 := { stood := { row := fnCbcRoadUptoRow, standIns := [], harness := (true, "d53b80530fca991b372febf8a60147cea808990a91a0cf21705c739f67ff2c28"), looks := true }, kinds := [], alts := [], laidByText := true, laidKinds := [.data, .data, .sentinel, .sentinel, .sentinel, .sentinel, .sentinel], laidTests := true, laidLooks := .later }
def FnCbcRoadUptoCardSaid : Prop := Claim7.holds Tryd.pinned (.plain (OpenSpec.upto fnCbcRoadSpec)) fnCbcRoadUptoCard
end Rows
end Go.Proofs.YtpedkkmoplbdhaaDoor
