/-
  DERIVED. GIVEN WITH THE SEED: THE CARDS: each row of YtjlhaodgpdmigaaDoorRows.lean that lists a variable, with what it lists TIED to the program's text (the seventh form; the later family's looks); each row that meets fmt, with fmt's text TOLD by the authors' own Lean function (tested against real Go, not proved from fmt's source: count such statements apart). THE CARD IS WHAT COUNTS. Prove the row's statement (the work); the ties are given (YtjlhaodgpdmigaaDoorTie.lean); close each card by the builder's one call (the guide's Derived/Test/ToyasCard.lean, 'card_holds'). Laid BY PROGRAM, IN A SANDBOX (cutbox-door.mjs). By AI agents, Wed Nov 11 2026. No macro, syntax, notation, axiom, sorry.
-/
import Derived.Test.YtjlhaodgpdmigaaDoorRows
import GoSem.ClaimSeven
namespace Go.Proofs.YtjlhaodgpdmigaaDoor
namespace Rows

/-- THE TIED CARD OF 'laws.FnSize'. -/
def fnSizeCard : Claim7 := { stood := { row := fnSizeRow, standIns := [], harness := (true, "c0ad5842ab952ea5025bd694e0c904b7643b0767a1662bcde8c9839779200235"), looks := true }, kinds := [], alts := [], laidByText := true, laidKinds := [.sentinel], laidTests := true, laidLooks := .later }
def FnSizeCardSaid : Prop := Claim7.holds Tryd.pinned (.plain (OpenSpec.ofChange fnSizeSpec)) fnSizeCard

/-- THE SECOND FORM's CARD OF 'laws.FnSize'. -/
def fnSizeUptoCard : Claim7 := { stood := { row := fnSizeUptoRow, standIns := [], harness := (true, "c0ad5842ab952ea5025bd694e0c904b7643b0767a1662bcde8c9839779200235"), looks := true }, kinds := [], alts := [], laidByText := true, laidKinds := [.sentinel], laidTests := true, laidLooks := .later }
def FnSizeUptoCardSaid : Prop := Claim7.holds Tryd.pinned (.plain (OpenSpec.upto fnSizeSpec)) fnSizeUptoCard
end Rows
end Go.Proofs.YtjlhaodgpdmigaaDoor
