/-
  DERIVED. GIVEN WITH THE SEED: THE CARDS: each row of YtohankdfnjogfaaDoorRows.lean that lists a variable, with what it lists TIED to the program's text (the seventh form; the later family's looks); each row that meets fmt, with fmt's text TOLD by the authors' own Lean function (tested against real Go, not proved from fmt's source: count such statements apart). THE CARD IS WHAT COUNTS. Prove the row's statement (the work); the ties are given (YtohankdfnjogfaaDoorTie.lean); close each card by the builder's one call (the guide's Derived/Test/ToyasCard.lean, 'card_holds'). Laid BY PROGRAM, IN A SANDBOX (cutbox-door.mjs). By AI agents, Wed Nov 11 2026. No macro, syntax, notation, axiom, sorry.
-/
import Derived.Test.YtohankdfnjogfaaDoorRows
import GoSem.ClaimSeven
namespace Go.Proofs.YtohankdfnjogfaaDoor
namespace Rows

/-- THE TIED CARD OF 'laws.FnDeriveSecret'. -/
def fnDeriveSecretCard : Claim7 := { stood := { row := fnDeriveSecretRow, standIns := [], harness := (true, "300a003eba90dfa9f48f5872212bc7a1f334010b6a5fe449755689f0d6fdc340"), looks := true }, kinds := [], alts := [], laidByText := true, laidKinds := [.sentinel, .sentinel, .sentinel, .sentinel, .sentinel], laidTests := true, laidLooks := .later }
def FnDeriveSecretCardSaid : Prop := Claim7.holds Tryd.pinned (.plain (OpenSpec.ofChange fnDeriveSecretSpec)) fnDeriveSecretCard

/-- THE SECOND FORM's CARD OF 'laws.FnDeriveSecret'. -/
def fnDeriveSecretUptoCard : Claim7 := { stood := { row := fnDeriveSecretUptoRow, standIns := [], harness := (true, "300a003eba90dfa9f48f5872212bc7a1f334010b6a5fe449755689f0d6fdc340"), looks := true }, kinds := [], alts := [], laidByText := true, laidKinds := [.sentinel, .sentinel, .sentinel, .sentinel, .sentinel], laidTests := true, laidLooks := .later }
def FnDeriveSecretUptoCardSaid : Prop := Claim7.holds Tryd.pinned (.plain (OpenSpec.upto fnDeriveSecretSpec)) fnDeriveSecretUptoCard
end Rows
end Go.Proofs.YtohankdfnjogfaaDoor
