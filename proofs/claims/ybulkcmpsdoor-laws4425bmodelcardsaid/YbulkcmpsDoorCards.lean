/-
  DERIVED. GIVEN WITH THE SEED: THE CARDS: each row of YbulkcmpsDoorRows.lean that lists a variable, with what it lists TIED to the program's text (the seventh form; the later family's looks); each row that meets fmt, with fmt's text TOLD by the authors' own Lean function (tested against real Go, not proved from fmt's source: count such statements apart). THE CARD IS WHAT COUNTS. Prove the row's statement (the work); the ties are given (YbulkcmpsDoorTie.lean); close each card by the builder's one call (the guide's Derived/Test/ToyasCard.lean, 'card_holds'). Laid BY PROGRAM, IN A SANDBOX (cutbox-door.mjs). By AI agents, Wed Nov 11 2026. No macro, syntax, notation, axiom, sorry.
-/
import Derived.Test.YbulkcmpsDoorRows
import GoSem.ClaimSeven
namespace Go.Proofs.YbulkcmpsDoor
namespace Rows

/-- THE TIED CARD OF 'coin.LawS4425BModel'. -/
def lawS4425BModelCard : Claim7 := { stood := { row := lawS4425BModelRow, standIns := [], harness := (true, "eaa23d270b09e9f70892d9a11d1505ea717604424ac0fdaf37e60a346e493792"), looks := false }, kinds := [], alts := [], laidByText := true, laidKinds := [.data], laidTests := true, laidLooks := .later }
def LawS4425BModelCardSaid : Prop := Claim7.holds Ybad.pinned (.plain (OpenSpec.ofChange lawS4425BModelSpec)) lawS4425BModelCard
end Rows
end Go.Proofs.YbulkcmpsDoor
