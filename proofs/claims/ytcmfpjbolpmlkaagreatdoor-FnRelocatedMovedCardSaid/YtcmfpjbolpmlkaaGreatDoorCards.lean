/-
  DERIVED. GIVEN WITH THE SEED: THE CARDS: each row of YtcmfpjbolpmlkaaGreatDoorRows.lean that lists a variable, with what it lists TIED to the program's text (the seventh form; the later family's looks); each row that meets fmt, with fmt's text TOLD by the authors' own Lean function (tested against real Go, not proved from fmt's source: count such statements apart). THE CARD IS WHAT COUNTS. Prove the row's statement (the work); the ties are given (YtcmfpjbolpmlkaaGreatDoorTie.lean); close each card by the builder's one call (the guide's Derived/Test/ToyasCard.lean, 'card_holds'). Laid BY PROGRAM, IN A SANDBOX (cutbox-door.mjs). By AI agents, Wed Nov 11 2026. No macro, syntax, notation, axiom, sorry.
-/
import Derived.Test.YtcmfpjbolpmlkaaGreatDoorRows
import GoSem.ClaimSeven
namespace Go.Proofs.YtcmfpjbolpmlkaaGreatDoor
namespace Rows

/-- THE TIED CARD OF 'laws.FnSame'. -/
def fnSameCard : Claim7 := { stood := { row := fnSameRow, standIns := [], harness := (true, "929b8c898c5b426bb27c28c4084e6bce1842316898b633ee633dbd7f9c4f0481"), looks := true }, kinds := [], alts := [], laidByText := true, laidKinds := [.sentinel, .sentinel, .sentinel], laidTests := true, laidLooks := .later }
def FnSameCardSaid : Prop := Claim7.holds Tryz.pinned (.plain (OpenSpec.ofChange fnSameSpec)) fnSameCard

/-- THE TIED CARD OF 'laws.FnRelocatedType'. -/
def fnRelocatedTypeCard : Claim7 := { stood := { row := fnRelocatedTypeRow, standIns := [], harness := (true, "929b8c898c5b426bb27c28c4084e6bce1842316898b633ee633dbd7f9c4f0481"), looks := true }, kinds := [], alts := [], laidByText := true, laidKinds := [.sentinel, .sentinel, .sentinel, .sentinel, .sentinel, .sentinel], laidTests := true, laidLooks := .later }
def FnRelocatedTypeCardSaid : Prop := Claim7.holds Tryz.pinned (.plain (OpenSpec.ofChange fnRelocatedTypeSpec)) fnRelocatedTypeCard

/-- THE TIED CARD OF 'laws.FnRelocatedField'. -/
def fnRelocatedFieldCard : Claim7 := { stood := { row := fnRelocatedFieldRow, standIns := [], harness := (true, "929b8c898c5b426bb27c28c4084e6bce1842316898b633ee633dbd7f9c4f0481"), looks := true }, kinds := [], alts := [], laidByText := true, laidKinds := [.sentinel, .sentinel, .sentinel, .sentinel, .sentinel, .sentinel], laidTests := true, laidLooks := .later }
def FnRelocatedFieldCardSaid : Prop := Claim7.holds Tryz.pinned (.plain (OpenSpec.ofChange fnRelocatedFieldSpec)) fnRelocatedFieldCard

/-- THE TIED CARD OF 'laws.FnRelocatedMoved'. -/
def fnRelocatedMovedCard : Claim7 := { stood := { row := fnRelocatedMovedRow, standIns := [], harness := (true, "929b8c898c5b426bb27c28c4084e6bce1842316898b633ee633dbd7f9c4f0481"), looks := true }, kinds := [], alts := [], laidByText := true, laidKinds := [.sentinel, .sentinel, .sentinel, .sentinel, .sentinel, .sentinel], laidTests := true, laidLooks := .later }
def FnRelocatedMovedCardSaid : Prop := Claim7.holds Tryz.pinned (.plain (OpenSpec.ofChange fnRelocatedMovedSpec)) fnRelocatedMovedCard

/-- THE SECOND FORM's CARD OF 'laws.FnSame'. -/
def fnSameUptoCard : Claim7 := { stood := { row := fnSameUptoRow, standIns := [], harness := (true, "929b8c898c5b426bb27c28c4084e6bce1842316898b633ee633dbd7f9c4f0481"), looks := true }, kinds := [], alts := [], laidByText := true, laidKinds := [.sentinel, .sentinel, .sentinel], laidTests := true, laidLooks := .later }
def FnSameUptoCardSaid : Prop := Claim7.holds Tryz.pinned (.plain (OpenSpec.upto fnSameSpec)) fnSameUptoCard

/-- THE SECOND FORM's CARD OF 'laws.FnRelocatedType'. -/
def fnRelocatedTypeUptoCard : Claim7 := { stood := { row := fnRelocatedTypeUptoRow, standIns := [], harness := (true, "929b8c898c5b426bb27c28c4084e6bce1842316898b633ee633dbd7f9c4f0481"), looks := true }, kinds := [], alts := [], laidByText := true, laidKinds := [.sentinel, .sentinel, .sentinel, .sentinel, .sentinel, .sentinel], laidTests := true, laidLooks := .later }
def FnRelocatedTypeUptoCardSaid : Prop := Claim7.holds Tryz.pinned (.plain (OpenSpec.upto fnRelocatedTypeSpec)) fnRelocatedTypeUptoCard

/-- THE SECOND FORM's CARD OF 'laws.FnRelocatedField'. -/
def fnRelocatedFieldUptoCard : Claim7 := { stood := { row := fnRelocatedFieldUptoRow, standIns := [], harness := (true, "929b8c898c5b426bb27c28c4084e6bce1842316898b633ee633dbd7f9c4f0481"), looks := true }, kinds := [], alts := [], laidByText := true, laidKinds := [.sentinel, .sentinel, .sentinel, .sentinel, .sentinel, .sentinel], laidTests := true, laidLooks := .later }
def FnRelocatedFieldUptoCardSaid : Prop := Claim7.holds Tryz.pinned (.plain (OpenSpec.upto fnRelocatedFieldSpec)) fnRelocatedFieldUptoCard

/-- THE SECOND FORM's CARD OF 'laws.FnRelocatedMoved'. -/
def fnRelocatedMovedUptoCard : Claim7 := { stood := { row := fnRelocatedMovedUptoRow, standIns := [], harness := (true, "929b8c898c5b426bb27c28c4084e6bce1842316898b633ee633dbd7f9c4f0481"), looks := true }, kinds := [], alts := [], laidByText := true, laidKinds := [.sentinel, .sentinel, .sentinel, .sentinel, .sentinel, .sentinel], laidTests := true, laidLooks := .later }
def FnRelocatedMovedUptoCardSaid : Prop := Claim7.holds Tryz.pinned (.plain (OpenSpec.upto fnRelocatedMovedSpec)) fnRelocatedMovedUptoCard
end Rows
end Go.Proofs.YtcmfpjbolpmlkaaGreatDoor
