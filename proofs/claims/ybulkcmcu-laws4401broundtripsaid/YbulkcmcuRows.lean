/-
  No cell of these rows narrows 'for every input' (looked for: loops, veiled, ifaces, maps, wideKeys, modest, calm, conditions, laid).
  DERIVED. THE GIVEN ROWS OF THIS SEAT. 2 by the template 'for every input the law returns true; each argument reads behind the call as it read before'; 0 by the template 'total and deterministic' (their statements: YbulkcmcuTotals.lean).
  GIVEN WITH THE SEED: the statements are not yours to turn. If you find one false, say at which input.
  Laid BY PROGRAM, IN A SANDBOX (cutbox-rows.mjs): the forced cells as the released guide's own fill.sh prints them over the translation 020bf7b30a2f78f3… (all of the seat's roots in one cut). By AI agents, Wed Nov 11 2026. No macro, syntax, notation, axiom, sorry.
-/
import Derived.Test.YbulkcmcuChecked
import GoSem.Claim
import GoSem.ClaimJoined
import GoSem.ClaimMapViews
import Derived.JoinedTies
import Derived.KernelRfl
namespace Go.Proofs.Ybulkcmcu
/- THE CELL 'sum', in the pinned program and in every row, IS THE sha256 OF THE DUMP (.gsa) THAT YbulkcmcuProg.lean LOADS. Nothing in Lean hashes anything: it is a label: what it is worth is what the hold of that sum in a sandbox is worth. -/
noncomputable def Yba.pinned : Pinned := { name := "ybulkcmcu", sum := "020bf7b30a2f78f30cfa700b63f18c094d0deb26d668c4414412bd23026eb4b2", checked := Yba.checked }
namespace Rows
def none {H : Type} : Left H := { results := [], args := [] }

/-- 'chunk.LawS4401BModel': WHATEVER THE INPUT: true; the input reads as it did. -/
def lawS4401BModelSpec : ChangeSpec := { name := "lawS4401BModel", fn := fun _ => fun
  | [d1, d2, d3, d4, d5, d6, d7] => { results := [.lit (.bool true)], args := [d1, d2, d3, d4, d5, d6, d7] }
  | _ => none }
def lawS4401BModelRow : OpenClaim := { program := "ybulkcmcu", sum := "020bf7b30a2f78f30cfa700b63f18c094d0deb26d668c4414412bd23026eb4b2", func := "example.com/varve/varve/internal/chunk.LawS4401BModel", spec := "lawS4401BModel", recurses := true, named := ["encoding/binary.BigEndian"], apart := false }
def LawS4401BModelSaid : Prop := lawS4401BModelRow.holds Yba.pinned (OpenSpec.ofChange lawS4401BModelSpec)

/-- ITS FALSE NEIGHBOUR: 'it returns false'. Refute it at one input. -/
def lawS4401BModelWrong : ChangeSpec := { name := "lawS4401BModel", fn := fun _ => fun
  | [d1, d2, d3, d4, d5, d6, d7] => { results := [.lit (.bool false)], args := [d1, d2, d3, d4, d5, d6, d7] }
  | _ => none }
def LawS4401BModelWrongFalsely : Prop := lawS4401BModelRow.holds Yba.pinned (OpenSpec.ofChange lawS4401BModelWrong)

/-- 'chunk.LawS4401BRoundTrip': WHATEVER THE INPUT: true; the input reads as it did. -/
def lawS4401BRoundTripSpec : ChangeSpec := { name := "lawS4401BRoundTrip", fn := fun _ => fun
  | [d1, d2, d3, d4, d5] => { results := [.lit (.bool true)], args := [d1, d2, d3, d4, d5] }
  | _ => none }
def lawS4401BRoundTripRow : OpenClaim := { program := "ybulkcmcu", sum := "020bf7b30a2f78f30cfa700b63f18c094d0deb26d668c4414412bd23026eb4b2", func := "example.com/varve/varve/internal/chunk.LawS4401BRoundTrip", spec := "lawS4401BRoundTrip", recurses := true, named := ["encoding/binary.BigEndian"], apart := false }
def LawS4401BRoundTripSaid : Prop := lawS4401BRoundTripRow.holds Yba.pinned (OpenSpec.ofChange lawS4401BRoundTripSpec)

/-- ITS FALSE NEIGHBOUR: 'it returns false'. Refute it at one input. -/
def lawS4401BRoundTripWrong : ChangeSpec := { name := "lawS4401BRoundTrip", fn := fun _ => fun
  | [d1, d2, d3, d4, d5] => { results := [.lit (.bool false)], args := [d1, d2, d3, d4, d5] }
  | _ => none }
def LawS4401BRoundTripWrongFalsely : Prop := lawS4401BRoundTripRow.holds Yba.pinned (OpenSpec.ofChange lawS4401BRoundTripWrong)

end Rows
end Go.Proofs.Ybulkcmcu
