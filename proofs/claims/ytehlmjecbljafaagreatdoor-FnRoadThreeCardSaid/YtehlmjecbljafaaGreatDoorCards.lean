/-
  DERIVED. GIVEN WITH THE SEED: THE CARDS: each row of YtehlmjecbljafaaGreatDoorRows.lean that lists a variable, with what it lists TIED to the program's text (the seventh form; the later family's looks); each row that meets fmt, with fmt's text TOLD by the authors' own Lean function (tested against real Go, not proved from fmt's source: count such statements apart). THE CARD IS WHAT COUNTS. Prove the row's statement (the work); the ties are given (YtehlmjecbljafaaGreatDoorTie.lean); close each card by the builder's one call (the guide's Derived/Test/ToyasCard.lean, 'card_holds'). Laid BY PROGRAM, IN A SANDBOX (cutbox-door.mjs). By AI agents, Wed Nov 11 2026. No macro, syntax, notation, axiom, sorry.
-/
import Derived.Test.YtehlmjecbljafaaGreatDoorRows
import GoSem.ClaimSeven
namespace Go.Proofs.YtehlmjecbljafaaGreatDoor
namespace Rows

/-- THE TIED CARD OF 'laws.FnRoadMapped'. -/
def fnRoadMappedCard : Claim7 := { stood := { row := fnRoadMappedRow, standIns := [], harness := (true, "d53c5f2ebd6524f35bbc39086da734b5a7ca8e9bc5639c97a2067fe9c4effba6"), looks := true }, kinds := [], alts := [], laidByText := true, laidKinds := [.data, .data, .data, .sentinel, .sentinel, .sentinel, .sentinel], laidTests := true, laidLooks := .later }
def FnRoadMappedCardSaid : Prop := Claim7.holds Tryz.pinned (.plain (OpenSpec.ofChange fnRoadMappedSpec)) fnRoadMappedCard

/-- THE TIED CARD OF 'laws.FnRoadDual'. -/
def fnRoadDualCard : Claim7 := { stood := { row := fnRoadDualRow, standIns := [], harness := (true, "d53c5f2ebd6524f35bbc39086da734b5a7ca8e9bc5639c97a2067fe9c4effba6"), looks := true }, kinds := [], alts := [], laidByText := true, laidKinds := [.sentinel, .sentinel, .sentinel, .sentinel], laidTests := true, laidLooks := .later }
def FnRoadDualCardSaid : Prop := Claim7.holds Tryz.pinned (.plain (OpenSpec.ofChange fnRoadDualSpec)) fnRoadDualCard

/-- THE TIED CARD OF 'laws.FnRoadThree'. -/
def fnRoadThreeCard : Claim7 := { stood := { row := fnRoadThreeRow, standIns := [], harness := (true, "d53c5f2ebd6524f35bbc39086da734b5a7ca8e9bc5639c97a2067fe9c4effba6"), looks := true }, kinds := [], alts := [], laidByText := true, laidKinds := [.sentinel, .sentinel, .sentinel, .sentinel], laidTests := true, laidLooks := .later }
def FnRoadThreeCardSaid : Prop := Claim7.holds Tryz.pinned (.plain (OpenSpec.ofChange fnRoadThreeSpec)) fnRoadThreeCard

/-- THE SECOND FORM's CARD OF 'laws.FnRoadMapped'. -/
def fnRoadMappedUptoCard : Claim7 := { stood := { row := fnRoadMappedUptoRow, standIns := [], harness := (true, "d53c5f2ebd6524f35bbc39086da734b5a7ca8e9bc5639c97a2067fe9c4effba6"), looks := true }, kinds := [], alts := [], laidByText := true, laidKinds := [.data, .data, .data, .sentinel, .sentinel, .sentinel, .sentinel], laidTests := true, laidLooks := .later }
def FnRoadMappedUptoCardSaid : Prop := Claim7.holds Tryz.pinned (.plain (OpenSpec.upto fnRoadMappedSpec)) fnRoadMappedUptoCard

/-- THE SECOND FORM's CARD OF 'laws.FnRoadDual'. -/
def fnRoadDualUptoCard : Claim7 := { stood := { row := fnRoadDualUptoRow, standIns := [], harness := (true, "d53c5f2ebd6524f35bbc39086da734b5a7ca8e9bc5639c97a2067fe9c4effba6"), looks := true }, kinds := [], alts := [], laidByText := true, laidKinds := [.sentinel, .sentinel, .sentinel, .sentinel], laidTests := true, laidLooks := .later }
def FnRoadDualUptoCardSaid : Prop := Claim7.holds Tryz.pinned (.plain (OpenSpec.upto fnRoadDualSpec)) fnRoadDualUptoCard

/-- THE SECOND FORM's CARD OF 'laws.FnRoadThree'. -/
def fnRoadThreeUptoCard : Claim7 := { stood := { row := fnRoadThreeUptoRow, standIns := [], harness := (true, "d53c5f2ebd6524f35bbc39086da734b5a7ca8e9bc5639c97a2067fe9c4effba6"), looks := true }, kinds := [], alts := [], laidByText := true, laidKinds := [.sentinel, .sentinel, .sentinel, .sentinel], laidTests := true, laidLooks := .later }
def FnRoadThreeUptoCardSaid : Prop := Claim7.holds Tryz.pinned (.plain (OpenSpec.upto fnRoadThreeSpec)) fnRoadThreeUptoCard
end Rows
end Go.Proofs.YtehlmjecbljafaaGreatDoor
