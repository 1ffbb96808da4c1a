/-
  DERIVED. GIVEN WITH THE SEED: THE CARDS: each row of YtgnkfpfgolhokaaDoorRows.lean that lists a variable, with what it lists TIED to the program's text (the seventh form; the later family's looks); each row that meets fmt, with fmt's text TOLD by the authors' own Lean function (tested against real Go, not proved from fmt's source: count such statements apart). THE CARD IS WHAT COUNTS. Prove the row's statement (the work); the ties are given (YtgnkfpfgolhokaaDoorTie.lean); close each card by the builder's one call (the guide's Derived/Test/ToyasCard.lean, 'card_holds'). Laid BY PROGRAM, IN A SANDBOX (cutbox-door.mjs). By AI agents, Wed Nov 11 2026. No macro, syntax, notation, axiom, sorry.
-/
import Derived.Test.YtgnkfpfgolhokaaDoorRows
import GoSem.ClaimSeven
namespace Go.Proofs.YtgnkfpfgolhokaaDoor
namespace Rows

/-- THE TIED CARD OF 'laws.FnCookieRefused'. -/
def fnCookieRefusedCard : Claim7 := { stood := { row := fnCookieRefusedRow, standIns := [], harness := (true, "a7963ffd63c26f0124690212f6a7e3c953b3a31d7c4f98c926b85d1f9d7ec06d"), looks := true }, kinds := [], alts := [], laidByText := true, laidKinds := [.sentinel], laidTests := true, laidLooks := .later }
def FnCookieRefusedCardSaid : Prop := Claim7.holds Tryd.pinned (.plain (OpenSpec.ofChange fnCookieRefusedSpec)) fnCookieRefusedCard

/-- THE TIED CARD OF 'laws.FnOIDFiltersWrite'. -/
def fnOIDFiltersWriteCard : Claim7 := { stood := { row := fnOIDFiltersWriteRow, standIns := [], harness := (true, "a7963ffd63c26f0124690212f6a7e3c953b3a31d7c4f98c926b85d1f9d7ec06d"), looks := true }, kinds := [], alts := [], laidByText := true, laidKinds := [.sentinel, .sentinel], laidTests := true, laidLooks := .later }
def FnOIDFiltersWriteCardSaid : Prop := Claim7.holds Tryd.pinned (.plain (OpenSpec.ofChange fnOIDFiltersWriteSpec)) fnOIDFiltersWriteCard

/-- THE TIED CARD OF 'laws.FnPreSharedKeySelectedWrite'. -/
def fnPreSharedKeySelectedWriteCard : Claim7 := { stood := { row := fnPreSharedKeySelectedWriteRow, standIns := [], harness := (true, "a7963ffd63c26f0124690212f6a7e3c953b3a31d7c4f98c926b85d1f9d7ec06d"), looks := true }, kinds := [], alts := [], laidByText := true, laidKinds := [.sentinel], laidTests := true, laidLooks := .later }
def FnPreSharedKeySelectedWriteCardSaid : Prop := Claim7.holds Tryd.pinned (.plain (OpenSpec.ofChange fnPreSharedKeySelectedWriteSpec)) fnPreSharedKeySelectedWriteCard

/-- THE TIED CARD OF 'laws.FnKeyShareServerWrite'. -/
def fnKeyShareServerWriteCard : Claim7 := { stood := { row := fnKeyShareServerWriteRow, standIns := [], harness := (true, "a7963ffd63c26f0124690212f6a7e3c953b3a31d7c4f98c926b85d1f9d7ec06d"), looks := true }, kinds := [], alts := [], laidByText := true, laidKinds := [.sentinel, .sentinel], laidTests := true, laidLooks := .later }
def FnKeyShareServerWriteCardSaid : Prop := Claim7.holds Tryd.pinned (.plain (OpenSpec.ofChange fnKeyShareServerWriteSpec)) fnKeyShareServerWriteCard

/-- THE TIED CARD OF 'laws.FnPskModesRefused'. -/
def fnPskModesRefusedCard : Claim7 := { stood := { row := fnPskModesRefusedRow, standIns := [], harness := (true, "a7963ffd63c26f0124690212f6a7e3c953b3a31d7c4f98c926b85d1f9d7ec06d"), looks := true }, kinds := [], alts := [], laidByText := true, laidKinds := [.sentinel, .sentinel, .sentinel, .sentinel, .sentinel], laidTests := true, laidLooks := .later }
def FnPskModesRefusedCardSaid : Prop := Claim7.holds Tryd.pinned (.plain (OpenSpec.ofChange fnPskModesRefusedSpec)) fnPskModesRefusedCard

/-- THE SECOND FORM's CARD OF 'laws.FnCookieRefused'. -/
def fnCookieRefusedUptoCard : Claim7 := { stood := { row := fnCookieRefusedUptoRow, standIns := [], harness := (true, "a7963ffd63c26f0124690212f6a7e3c953b3a31d7c4f98c926b85d1f9d7ec06d"), looks := true }, kinds := [], alts := [], laidByText := true, laidKinds := [.sentinel], laidTests := true, laidLooks := .later }
def FnCookieRefusedUptoCardSaid : Prop := Claim7.holds Tryd.pinned (.plain (OpenSpec.upto fnCookieRefusedSpec)) fnCookieRefusedUptoCard

/-- THE SECOND FORM's CARD OF 'laws.FnOIDFiltersWrite'. -/
def fnOIDFiltersWriteUptoCard : Claim7 := { stood := { row := fnOIDFiltersWriteUptoRow, standIns := [], harness := (true, "a7963ffd63c26f0124690212f6a7e3c953b3a31d7c4f98c926b85d1f9d7ec06d"), looks := true }, kinds := [], alts := [], laidByText := true, laidKinds := [.sentinel, .sentinel], laidTests := true, laidLooks := .later }
def FnOIDFiltersWriteUptoCardSaid : Prop := Claim7.holds Tryd.pinned (.plain (OpenSpec.upto fnOIDFiltersWriteSpec)) fnOIDFiltersWriteUptoCard

/-- THE SECOND FORM's CARD OF 'laws.FnPreSharedKeySelectedWrite'. -/
def fnPreSharedKeySelectedWriteUptoCard : Claim7 := { stood := { row := fnPreSharedKeySelectedWriteUptoRow, standIns := [], harness := (true, "a7963ffd63c26f0124690212f6a7e3c953b3a31d7c4f98c926b85d1f9d7ec06d"), looks := true }, kinds := [], alts := [], laidByText := true, laidKinds := [.sentinel], laidTests := true, laidLooks := .later }
def FnPreSharedKeySelectedWriteUptoCardSaid : Prop := Claim7.holds Tryd.pinned (.plain (OpenSpec.upto fnPreSharedKeySelectedWriteSpec)) fnPreSharedKeySelectedWriteUptoCard

/-- THE SECOND FORM's CARD OF 'laws.FnKeyShareServerWrite'. -/
def fnKeyShareServerWriteUptoCard : Claim7 := { stood := { row := fnKeyShareServerWriteUptoRow, standIns := [], harness := (true, "a7963ffd63c26f0124690212f6a7e3c953b3a31d7c4f98c926b85d1f9d7ec06d"), looks := true }, kinds := [], alts := [], laidByText := true, laidKinds := [.sentinel, .sentinel], laidTests := true, laidLooks := .later }
def FnKeyShareServerWriteUptoCardSaid : Prop := Claim7.holds Tryd.pinned (.plain (OpenSpec.upto fnKeyShareServerWriteSpec)) fnKeyShareServerWriteUptoCard

/-- THE SECOND FORM's CARD OF 'laws.FnPskModesRefused'. -/
def fnPskModesRefusedUptoCard : Claim7 := { stood := { row := fnPskModesRefusedUptoRow, standIns := [], harness := (true, "a7963ffd63c26f0124690212f6a7e3c953b3a31d7c4f98c926b85d1f9d7ec06d"), looks := true }, kinds := [], alts := [], laidByText := true, laidKinds := [.sentinel, .sentinel, .sentinel, .sentinel, .sentinel], laidTests := true, laidLooks := .later }
def FnPskModesRefusedUptoCardSaid : Prop := Claim7.holds Tryd.pinned (.plain (OpenSpec.upto fnPskModesRefusedSpec)) fnPskModesRefusedUptoCard
end Rows
end Go.Proofs.YtgnkfpfgolhokaaDoor
