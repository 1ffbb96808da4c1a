/-
  DERIVED. GIVEN WITH THE SEED: THE CARDS: each row of YtadblfnggmaadaaDoorRows.lean that lists a variable, with what it lists TIED to the program's text (the seventh form; the later family's looks); each row that meets fmt, with fmt's text TOLD by the authors' own Lean function (tested against real Go, not proved from fmt's source: count such statements apart). THE CARD IS WHAT COUNTS. Prove the row's statement (the work); the ties are given (YtadblfnggmaadaaDoorTie.lean); close each card by the builder's one call (the guide's Derived/Test/ToyasCard.lean, 'card_holds'). Laid BY PROGRAM, IN A SANDBOX (cutbox-door.mjs). By AI agents, Wed Nov 11 2026. No macro, syntax, notation, axiom, sorry.
-/
import Derived.Test.YtadblfnggmaadaaDoorRows
import GoSem.ClaimSeven
namespace Go.Proofs.YtadblfnggmaadaaDoor
namespace Rows

/-- THE TIED CARD OF 'laws.FnRanges'. -/
def fnRangesCard : Claim7 := { stood := { row := fnRangesRow, standIns := [], harness := (true, "629dba4b4148a0999971af1dd615ee3be8602a950c532794cae429c9d2a5454d"), looks := false }, kinds := [], alts := [], laidByText := true, laidKinds := [.sentinel], laidTests := true, laidLooks := .later }
def FnRangesCardSaid : Prop := Claim7.holds Tryd.pinned (.plain (OpenSpec.ofChange fnRangesSpec)) fnRangesCard

/-- THE TIED CARD OF 'laws.FnFragmentsOther'. -/
def fnFragmentsOtherCard : Claim7 := { stood := { row := fnFragmentsOtherRow, standIns := [], harness := (true, "629dba4b4148a0999971af1dd615ee3be8602a950c532794cae429c9d2a5454d"), looks := false }, kinds := [], alts := [], laidByText := true, laidKinds := [.data, .data, .sentinel, .sentinel, .sentinel, .sentinel, .sentinel], laidTests := true, laidLooks := .later }
def FnFragmentsOtherCardSaid : Prop := Claim7.holds Tryd.pinned (.plain (OpenSpec.ofChange fnFragmentsOtherSpec)) fnFragmentsOtherCard

/-- THE TIED CARD OF 'laws.FnFragmentsWhole'. -/
def fnFragmentsWholeCard : Claim7 := { stood := { row := fnFragmentsWholeRow, standIns := [], harness := (true, "629dba4b4148a0999971af1dd615ee3be8602a950c532794cae429c9d2a5454d"), looks := false }, kinds := [], alts := [], laidByText := true, laidKinds := [.data, .data, .sentinel, .sentinel, .sentinel, .sentinel, .sentinel], laidTests := true, laidLooks := .later }
def FnFragmentsWholeCardSaid : Prop := Claim7.holds Tryd.pinned (.plain (OpenSpec.ofChange fnFragmentsWholeSpec)) fnFragmentsWholeCard

/-- THE SECOND FORM's CARD OF 'laws.FnRanges'. -/
def fnRangesUptoCard : Claim7 := { stood := { row := fnRangesUptoRow, standIns := [], harness := (true, "629dba4b4148a0999971af1dd615ee3be8602a950c532794cae429c9d2a5454d"), looks := false }, kinds := [], alts := [], laidByText := true, laidKinds := [.sentinel], laidTests := true, laidLooks := .later }
def FnRangesUptoCardSaid : Prop := Claim7.holds Tryd.pinned (.plain (OpenSpec.upto fnRangesSpec)) fnRangesUptoCard

/-- THE SECOND FORM's CARD OF 'laws.FnFragmentsOther'. -/
def fnFragmentsOtherUptoCard : Claim7 := { stood := { row := fnFragmentsOtherUptoRow, standIns := [], harness := (true, "629dba4b4148a0999971af1dd615ee3be8602a950c532794cae429c9d2a5454d"), looks := false }, kinds := [], alts := [], laidByText := true, laidKinds := [.data, .data, .sentinel, .sentinel, .sentinel, .sentinel, .sentinel], laidTests := true, laidLooks := .later }
def FnFragmentsOtherUptoCardSaid : Prop := Claim7.holds Tryd.pinned (.plain (OpenSpec.upto fnFragmentsOtherSpec)) fnFragmentsOtherUptoCard

/-- THE SECOND FORM's CARD OF 'laws.FnFragmentsWhole'. -/
def fnFragmentsWholeUptoCard : Claim7 := { stood := { row := fnFragmentsWholeUptoRow, standIns := [], harness := (true, "629dba4b4148a0999971af1dd615ee3be8602a950c532794cae429c9d2a5454d"), looks := false }, kinds := [], alts := [], laidByText := true, laidKinds := [.data, .data, .sentinel, .sentinel, .sentinel, .sentinel, .sentinel], laidTests := true, laidLooks := .later }
def FnFragmentsWholeUptoCardSaid : Prop := Claim7.holds Tryd.pinned (.plain (OpenSpec.upto fnFragmentsWholeSpec)) fnFragmentsWholeUptoCard
end Rows
end Go.Proofs.YtadblfnggmaadaaDoor
