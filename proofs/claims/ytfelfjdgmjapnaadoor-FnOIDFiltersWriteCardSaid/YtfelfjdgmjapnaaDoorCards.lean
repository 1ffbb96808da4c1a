/-
  DERIVED. GIVEN WITH THE SEED: THE CARDS: each row of YtfelfjdgmjapnaaDoorRows.lean that lists a variable, with what it lists TIED to the program's text (the seventh form; the later family's looks); each row that meets fmt, with fmt's text TOLD by the authors' own Lean function (tested against real Go, not proved from fmt's source: count such statements apart). THE CARD IS WHAT COUNTS. Prove the row's statement (the work); the ties are given (YtfelfjdgmjapnaaDoorTie.lean); close each card by the builder's one call (the guide's Derived/Test/ToyasCard.lean, 'card_holds'). Laid BY PROGRAM, IN A SANDBOX (cutbox-door.mjs). By AI agents, Wed Nov 11 2026. No macro, syntax, notation, axiom, sorry.
-/
import Derived.Test.YtfelfjdgmjapnaaDoorRows
import GoSem.ClaimSeven
namespace Go.Proofs.YtfelfjdgmjapnaaDoor
namespace Rows

/-- THE TIED CARD OF 'laws.FnServerKeyBothBack'. -/
def fnServerKeyBothBackCard : Claim7 := { stood := { row := fnServerKeyBothBackRow, standIns := [], harness := (true, "ba45e9a8590ab89b23e56fc5a1649ac5c253f49d383fd3e9271923a4f0e501ec"), looks := true }, kinds := [], alts := [], laidByText := true, laidKinds := [.sentinel, .sentinel, .sentinel, .sentinel, .sentinel, .sentinel, .sentinel, .sentinel], laidTests := true, laidLooks := .later }
def FnServerKeyBothBackCardSaid : Prop := Claim7.holds Tryd.pinned (.plain (OpenSpec.ofChange fnServerKeyBothBackSpec)) fnServerKeyBothBackCard

/-- THE TIED CARD OF 'laws.FnOIDFiltersWrite'. -/
def fnOIDFiltersWriteCard : Claim7 := { stood := { row := fnOIDFiltersWriteRow, standIns := [], harness := (true, "ba45e9a8590ab89b23e56fc5a1649ac5c253f49d383fd3e9271923a4f0e501ec"), looks := true }, kinds := [], alts := [], laidByText := true, laidKinds := [.sentinel, .sentinel], laidTests := true, laidLooks := .later }
def FnOIDFiltersWriteCardSaid : Prop := Claim7.holds Tryd.pinned (.plain (OpenSpec.ofChange fnOIDFiltersWriteSpec)) fnOIDFiltersWriteCard

/-- THE SECOND FORM's CARD OF 'laws.FnServerKeyBothBack'. -/
def fnServerKeyBothBackUptoCard : Claim7 := { stood := { row := fnServerKeyBothBackUptoRow, standIns := [], harness := (true, "ba45e9a8590ab89b23e56fc5a1649ac5c253f49d383fd3e9271923a4f0e501ec"), looks := true }, kinds := [], alts := [], laidByText := true, laidKinds := [.sentinel, .sentinel, .sentinel, .sentinel, .sentinel, .sentinel, .sentinel, .sentinel], laidTests := true, laidLooks := .later }
def FnServerKeyBothBackUptoCardSaid : Prop := Claim7.holds Tryd.pinned (.plain (OpenSpec.upto fnServerKeyBothBackSpec)) fnServerKeyBothBackUptoCard

/-- THE SECOND FORM's CARD OF 'laws.FnOIDFiltersWrite'. -/
def fnOIDFiltersWriteUptoCard : Claim7 := { stood := { row := fnOIDFiltersWriteUptoRow, standIns := [], harness := (true, "ba45e9a8590ab89b23e56fc5a1649ac5c253f49d383fd3e9271923a4f0e501ec"), looks := true }, kinds := [], alts := [], laidByText := true, laidKinds := [.sentinel, .sentinel], laidTests := true, laidLooks := .later }
def FnOIDFiltersWriteUptoCardSaid : Prop := Claim7.holds Tryd.pinned (.plain (OpenSpec.upto fnOIDFiltersWriteSpec)) fnOIDFiltersWriteUptoCard
end Rows
end Go.Proofs.YtfelfjdgmjapnaaDoor
