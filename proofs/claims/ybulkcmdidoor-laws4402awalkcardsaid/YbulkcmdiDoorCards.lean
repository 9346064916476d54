/-
  DERIVED. GIVEN WITH THE SEED: THE CARDS: each row of YbulkcmdiDoorRows.lean that lists a variable, with what it lists TIED to the program's text (the seventh form; the later family's looks); each row that meets fmt, with fmt's text TOLD by the authors' own Lean function (tested against real Go, not proved from fmt's source: count such statements apart). THE CARD IS WHAT COUNTS. Prove the row's statement (the work); the ties are given (YbulkcmdiDoorTie.lean); close each card by the builder's one call (the guide's Derived/Test/ToyasCard.lean, 'card_holds'). Laid BY PROGRAM, IN A SANDBOX (cutbox-door.mjs). By AI agents, Wed Nov 11 2026. No macro, syntax, notation, axiom, sorry.
-/
import Derived.Test.YbulkcmdiDoorRows
import GoSem.ClaimSeven
namespace Go.Proofs.YbulkcmdiDoor
namespace Rows

/-- THE TIED CARD OF 'arith.LawS4402AExact'. -/
def lawS4402AExactCard : Claim7 := { stood := { row := lawS4402AExactRow, standIns := [], harness := (true, "c4a8508af04f63144ceda91c8664b89283bffeaba841596449af60ee170306ec"), looks := false }, kinds := [], alts := [], laidByText := true, laidKinds := [.called], laidTests := true, laidLooks := .later }
def LawS4402AExactCardSaid : Prop := Claim7.holds Ybad.pinned (.plain (OpenSpec.ofChange lawS4402AExactSpec)) lawS4402AExactCard

/-- THE TIED CARD OF 'arith.LawS4402AWalk'. -/
def lawS4402AWalkCard : Claim7 := { stood := { row := lawS4402AWalkRow, standIns := [], harness := (true, "c4a8508af04f63144ceda91c8664b89283bffeaba841596449af60ee170306ec"), looks := false }, kinds := [], alts := [], laidByText := true, laidKinds := [.called], laidTests := true, laidLooks := .later }
def LawS4402AWalkCardSaid : Prop := Claim7.holds Ybad.pinned (.plain (OpenSpec.ofChange lawS4402AWalkSpec)) lawS4402AWalkCard
end Rows
end Go.Proofs.YbulkcmdiDoor
