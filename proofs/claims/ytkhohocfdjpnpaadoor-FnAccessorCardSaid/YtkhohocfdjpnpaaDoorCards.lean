/-
  DERIVED. GIVEN WITH THE SEED: THE CARDS: each row of YtkhohocfdjpnpaaDoorRows.lean that lists a variable, with what it lists TIED to the program's text (the seventh form; the later family's looks); each row that meets fmt, with fmt's text TOLD by the authors' own Lean function (tested against real Go, not proved from fmt's source: count such statements apart). THE CARD IS WHAT COUNTS. Prove the row's statement (the work); the ties are given (YtkhohocfdjpnpaaDoorTie.lean); close each card by the builder's one call (the guide's Derived/Test/ToyasCard.lean, 'card_holds'). Laid BY PROGRAM, IN A SANDBOX (cutbox-door.mjs). By AI agents, Wed Nov 11 2026. No macro, syntax, notation, axiom, sorry.
-/
import Derived.Test.YtkhohocfdjpnpaaDoorRows
import GoSem.ClaimSeven
namespace Go.Proofs.YtkhohocfdjpnpaaDoor
namespace Rows

/-- THE TIED CARD OF 'laws.FnAccessor'. -/
def fnAccessorCard : Claim7 := { stood := { row := fnAccessorRow, standIns := [], harness := (true, "2c9835d2d9c7542d6f997cee256140b4bcb12a303788cf52d46236624124e252"), looks := true }, kinds := [], alts := [], laidByText := true, laidKinds := [.data, .data, .data, .sentinel, .sentinel], laidTests := true, laidLooks := .later }
def FnAccessorCardSaid : Prop := Claim7.holds Tryd.pinned (.plain (OpenSpec.ofChange fnAccessorSpec)) fnAccessorCard

/-- THE SECOND FORM's CARD OF 'laws.FnAccessor'. -/
def fnAccessorUptoCard : Claim7 := { stood := { row := fnAccessorUptoRow, standIns := [], harness := (true, "2c9835d2d9c7542d6f997cee256140b4bcb12a303788cf52d46236624124e252"), looks := true }, kinds := [], alts := [], laidByText := true, laidKinds := [.data, .data, .data, .sentinel, .sentinel], laidTests := true, laidLooks := .later }
def FnAccessorUptoCardSaid : Prop := Claim7.holds Tryd.pinned (.plain (OpenSpec.upto fnAccessorSpec)) fnAccessorUptoCard
end Rows
end Go.Proofs.YtkhohocfdjpnpaaDoor
