/-
  DERIVED. GIVEN WITH THE SEED: THE CARDS: each row of YtnjomlcenolkdaaDoorRows.lean that lists a variable, with what it lists TIED to the program's text (the seventh form; the later family's looks); each row that meets fmt, with fmt's text TOLD by the authors' own Lean function (tested against real Go, not proved from fmt's source: count such statements apart). THE CARD IS WHAT COUNTS. Prove the row's statement (the work); the ties are given (YtnjomlcenolkdaaDoorTie.lean); close each card by the builder's one call (the guide's Derived/Test/ToyasCard.lean, 'card_holds'). Laid BY PROGRAM, IN A SANDBOX (cutbox-door.mjs). By AI agents, Wed Nov 11 2026. No macro, syntax, notation, axiom, sorry.
-/
import Derived.Test.YtnjomlcenolkdaaDoorRows
import GoSem.ClaimSeven
namespace Go.Proofs.YtnjomlcenolkdaaDoor
namespace Rows

/-- THE TIED CARD OF 'laws.FnAlertRead'. -/
def fnAlertReadCard : Claim7 := { stood := { row := fnAlertReadRow, standIns := [], harness := (true, "5cc36b2df17f212b9751b6116a73680b73c6e345936f04b7b6ec2021f8591083"), looks := false }, kinds := [], alts := [], laidByText := true, laidKinds := [.sentinel], laidTests := true, laidLooks := .later }
def FnAlertReadCardSaid : Prop := Claim7.holds Tryd.pinned (.plain (OpenSpec.ofChange fnAlertReadSpec)) fnAlertReadCard

/-- THE TIED CARD OF 'laws.FnVerifyRequestBack'. -/
def fnVerifyRequestBackCard : Claim7 := { stood := { row := fnVerifyRequestBackRow, standIns := [], harness := (true, "5cc36b2df17f212b9751b6116a73680b73c6e345936f04b7b6ec2021f8591083"), looks := false }, kinds := [], alts := [], laidByText := true, laidKinds := [.sentinel], laidTests := true, laidLooks := .later }
def FnVerifyRequestBackCardSaid : Prop := Claim7.holds Tryd.pinned (.plain (OpenSpec.ofChange fnVerifyRequestBackSpec)) fnVerifyRequestBackCard

/-- THE TIED CARD OF 'laws.FnDatagramBack'. -/
def fnDatagramBackCard : Claim7 := { stood := { row := fnDatagramBackRow, standIns := [], harness := (true, "5cc36b2df17f212b9751b6116a73680b73c6e345936f04b7b6ec2021f8591083"), looks := false }, kinds := [], alts := [], laidByText := true, laidKinds := [.sentinel], laidTests := true, laidLooks := .later }
def FnDatagramBackCardSaid : Prop := Claim7.holds Tryd.pinned (.plain (OpenSpec.ofChange fnDatagramBackSpec)) fnDatagramBackCard

/-- THE TIED CARD OF 'laws.FnClientKeyEcdheCut'. -/
def fnClientKeyEcdheCutCard : Claim7 := { stood := { row := fnClientKeyEcdheCutRow, standIns := [], harness := (true, "5cc36b2df17f212b9751b6116a73680b73c6e345936f04b7b6ec2021f8591083"), looks := false }, kinds := [], alts := [], laidByText := true, laidKinds := [.sentinel, .sentinel], laidTests := true, laidLooks := .later }
def FnClientKeyEcdheCutCardSaid : Prop := Claim7.holds Tryd.pinned (.plain (OpenSpec.ofChange fnClientKeyEcdheCutSpec)) fnClientKeyEcdheCutCard

/-- THE TIED CARD OF 'laws.FnClientKeyPskBack'. -/
def fnClientKeyPskBackCard : Claim7 := { stood := { row := fnClientKeyPskBackRow, standIns := [], harness := (true, "5cc36b2df17f212b9751b6116a73680b73c6e345936f04b7b6ec2021f8591083"), looks := false }, kinds := [], alts := [], laidByText := true, laidKinds := [.sentinel, .sentinel], laidTests := true, laidLooks := .later }
def FnClientKeyPskBackCardSaid : Prop := Claim7.holds Tryd.pinned (.plain (OpenSpec.ofChange fnClientKeyPskBackSpec)) fnClientKeyPskBackCard

/-- THE TIED CARD OF 'laws.FnDatagramTwo'. -/
def fnDatagramTwoCard : Claim7 := { stood := { row := fnDatagramTwoRow, standIns := [], harness := (true, "5cc36b2df17f212b9751b6116a73680b73c6e345936f04b7b6ec2021f8591083"), looks := false }, kinds := [], alts := [], laidByText := true, laidKinds := [.sentinel], laidTests := true, laidLooks := .later }
def FnDatagramTwoCardSaid : Prop := Claim7.holds Tryd.pinned (.plain (OpenSpec.ofChange fnDatagramTwoSpec)) fnDatagramTwoCard

/-- THE SECOND FORM's CARD OF 'laws.FnAlertRead'. -/
def fnAlertReadUptoCard : Claim7 := { stood := { row := fnAlertReadUptoRow, standIns := [], harness := (true, "5cc36b2df17f212b9751b6116a73680b73c6e345936f04b7b6ec2021f8591083"), looks := false }, kinds := [], alts := [], laidByText := true, laidKinds := [.sentinel], laidTests := true, laidLooks := .later }
def FnAlertReadUptoCardSaid : Prop := Claim7.holds Tryd.pinned (.plain (OpenSpec.upto fnAlertReadSpec)) fnAlertReadUptoCard

/-- THE SECOND FORM's CARD OF 'laws.FnVerifyRequestBack'. -/
def fnVerifyRequestBackUptoCard : Claim7 := { stood := { row := fnVerifyRequestBackUptoRow, standIns := [], harness := (true, "5cc36b2df17f212b9751b6116a73680b73c6e345936f04b7b6ec2021f8591083"), looks := false }, kinds := [], alts := [], laidByText := true, laidKinds := [.sentinel], laidTests := true, laidLooks := .later }
def FnVerifyRequestBackUptoCardSaid : Prop := Claim7.holds Tryd.pinned (.plain (OpenSpec.upto fnVerifyRequestBackSpec)) fnVerifyRequestBackUptoCard

/-- THE SECOND FORM's CARD OF 'laws.FnDatagramBack'. -/
def fnDatagramBackUptoCard : Claim7 := { stood := { row := fnDatagramBackUptoRow, standIns := [], harness := (true, "5cc36b2df17f212b9751b6116a73680b73c6e345936f04b7b6ec2021f8591083"), looks := false }, kinds := [], alts := [], laidByText := true, laidKinds := [.sentinel], laidTests := true, laidLooks := .later }
def FnDatagramBackUptoCardSaid : Prop := Claim7.holds Tryd.pinned (.plain (OpenSpec.upto fnDatagramBackSpec)) fnDatagramBackUptoCard

/-- THE SECOND FORM's CARD OF 'laws.FnClientKeyEcdheCut'. -/
def fnClientKeyEcdheCutUptoCard : Claim7 := { stood := { row := fnClientKeyEcdheCutUptoRow, standIns := [], harness := (true, "5cc36b2df17f212b9751b6116a73680b73c6e345936f04b7b6ec2021f8591083"), looks := false }, kinds := [], alts := [], laidByText := true, laidKinds := [.sentinel, .sentinel], laidTests := true, laidLooks := .later }
def FnClientKeyEcdheCutUptoCardSaid : Prop := Claim7.holds Tryd.pinned (.plain (OpenSpec.upto fnClientKeyEcdheCutSpec)) fnClientKeyEcdheCutUptoCard

/-- THE SECOND FORM's CARD OF 'laws.FnClientKeyPskBack'. -/
def fnClientKeyPskBackUptoCard : Claim7 := { stood := { row := fnClientKeyPskBackUptoRow, standIns := [], harness := (true, "5cc36b2df17f212b9751b6116a73680b73c6e345936f04b7b6ec2021f8591083"), looks := false }, kinds := [], alts := [], laidByText := true, laidKinds := [.sentinel, .sentinel], laidTests := true, laidLooks := .later }
def FnClientKeyPskBackUptoCardSaid : Prop := Claim7.holds Tryd.pinned (.plain (OpenSpec.upto fnClientKeyPskBackSpec)) fnClientKeyPskBackUptoCard

/-- THE SECOND FORM's CARD OF 'laws.FnDatagramTwo'. -/
def fnDatagramTwoUptoCard : Claim7 := { stood := { row := fnDatagramTwoUptoRow, standIns := [], harness := (true, "5cc36b2df17f212b9751b6116a73680b73c6e345936f04b7b6ec2021f8591083"), looks := false }, kinds := [], alts := [], laidByText := true, laidKinds := [.sentinel], laidTests := true, laidLooks := .later }
def FnDatagramTwoUptoCardSaid : Prop := Claim7.holds Tryd.pinned (.plain (OpenSpec.upto fnDatagramTwoSpec)) fnDatagramTwoUptoCard
end Rows
end Go.Proofs.YtnjomlcenolkdaaDoor
