/-
  DERIVED. GIVEN WITH THE SEED: THE CARDS: each row of YtkcacppcendhmaaDoorRows.lean that lists a variable, with what it lists TIED to the program's text (the seventh form; the later family's looks); each row that meets fmt, with fmt's text TOLD by the authors' own Lean function (tested against real Go, not proved from fmt's source: count such statements apart). THE CARD IS WHAT COUNTS. Prove the row's statement (the work); the ties are given (YtkcacppcendhmaaDoorTie.lean); close each card by the builder's one call (the guide's Derived/Test/ToyasCard.lean, 'card_holds'). Laid BY PROGRAM, IN A SANDBOX (cutbox-door.mjs). By AI agents, Wed Nov 11 2026. No macro, syntax, notation, axiom, sorry.
-/
import Derived.Test.YtkcacppcendhmaaDoorRows
import GoSem.ClaimSeven
namespace Go.Proofs.YtkcacppcendhmaaDoor
namespace Rows

/-- THE TIED CARD OF 'laws.FnDatagramBack'. -/
def fnDatagramBackCard : Claim7 := { stood := { row := fnDatagramBackRow, standIns := [], harness := (true, "3142165eb005c6955c0b1ede0eef4afe3c8f49f9eb517e2e7a196dbe9b524a9c"), looks := false }, kinds := [], alts := [], laidByText := true, laidKinds := [.sentinel], laidTests := true, laidLooks := .later }
def FnDatagramBackCardSaid : Prop := Claim7.holds Tryd.pinned (.plain (OpenSpec.ofChange fnDatagramBackSpec)) fnDatagramBackCard

/-- THE TIED CARD OF 'laws.FnDatagramTwo'. -/
def fnDatagramTwoCard : Claim7 := { stood := { row := fnDatagramTwoRow, standIns := [], harness := (true, "3142165eb005c6955c0b1ede0eef4afe3c8f49f9eb517e2e7a196dbe9b524a9c"), looks := false }, kinds := [], alts := [], laidByText := true, laidKinds := [.sentinel], laidTests := true, laidLooks := .later }
def FnDatagramTwoCardSaid : Prop := Claim7.holds Tryd.pinned (.plain (OpenSpec.ofChange fnDatagramTwoSpec)) fnDatagramTwoCard

/-- THE SECOND FORM's CARD OF 'laws.FnDatagramBack'. -/
def fnDatagramBackUptoCard : Claim7 := { stood := { row := fnDatagramBackUptoRow, standIns := [], harness := (true, "3142165eb005c6955c0b1ede0eef4afe3c8f49f9eb517e2e7a196dbe9b524a9c"), looks := false }, kinds := [], alts := [], laidByText := true, laidKinds := [.sentinel], laidTests := true, laidLooks := .later }
def FnDatagramBackUptoCardSaid : Prop := Claim7.holds Tryd.pinned (.plain (OpenSpec.upto fnDatagramBackSpec)) fnDatagramBackUptoCard

/-- THE SECOND FORM's CARD OF 'laws.FnDatagramTwo'. -/
def fnDatagramTwoUptoCard : Claim7 := { stood := { row := fnDatagramTwoUptoRow, standIns := [], harness := (true, "3142165eb005c6955c0b1ede0eef4afe3c8f49f9eb517e2e7a196dbe9b524a9c"), looks := false }, kinds := [], alts := [], laidByText := true, laidKinds := [.sentinel], laidTests := true, laidLooks := .later }
def FnDatagramTwoUptoCardSaid : Prop := Claim7.holds Tryd.pinned (.plain (OpenSpec.upto fnDatagramTwoSpec)) fnDatagramTwoUptoCard
end Rows
end Go.Proofs.YtkcacppcendhmaaDoor
