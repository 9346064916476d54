/-
  NARROWER THAN 'FOR EVERY INPUT', by the rows' own cells (each row's printed sentence says how): LawS4425BModel: laid.
  DERIVED. THE GIVEN ROWS OF THIS SEAT. 1 by the template 'for every input the law returns true; each argument reads behind the call as it read before'; 0 by the template 'total and deterministic' (their statements: YbulkcmpsDoorTotals.lean).
  GIVEN WITH THE SEED: the statements are not yours to turn. If you find one false, say at which input.
  Laid BY PROGRAM, IN A SANDBOX (cutbox-rows.mjs): the forced cells as the released guide's own fill.sh prints them over the translation 969c05a34938a550… (all of the seat's roots in one cut). By AI agents, Wed Nov 11 2026. No macro, syntax, notation, axiom, sorry.
-/
import Derived.Test.YbulkcmpsDoorChecked
import GoSem.Claim
import GoSem.ClaimJoined
import GoSem.ClaimMapViews
import Derived.JoinedTies
import Derived.KernelRfl
namespace Go.Proofs.YbulkcmpsDoor
/- THE CELL 'sum', in the pinned program and in every row, IS THE sha256 OF THE DUMP (.gsa) THAT YbulkcmpsDoorProg.lean LOADS. Nothing in Lean hashes anything: it is a label: what it is worth is what the hold of that sum in a sandbox is worth. -/
noncomputable def Ybad.pinned : Pinned := { name := "ybulkcmpsdoor", sum := "969c05a34938a5503cb05a2fcb46fe4898685ba837f078e814ff07d1a73456ec", checked := Ybad.checked }
namespace Rows
def none {H : Type} : Left H := { results := [], args := [] }

/- WHAT THE LISTED PACKAGE-LEVEL VARIABLES READ AS WHEN THE CALL BEGINS. Each datum BY PROGRAM (the guide's laid-datum.mjs) off the statement by which the dump's own 'gosem.cut.vars' lays the variable. In a bare row this is a premise. The card (YbulkcmpsDoorCards.lean) ties it to the program's text. -/
def laid_example_com_commonground_commonground_vss_kindNames {H : Type} : DataW H := .agg [.lit (.string []), .lit (.string [114, 111, 119]), .lit (.string [112, 111, 105, 110, 116]), .lit (.string [114, 101, 112, 111, 114, 116]), .lit (.string [99, 97, 110, 100, 105, 100, 97, 116, 101]), .lit (.string [114, 101, 99, 45, 114, 111, 119]), .lit (.string [114, 101, 99, 45, 99, 111, 109, 112, 108, 101, 116, 101])]

/-- 'coin.LawS4425BModel': WHATEVER THE INPUT: true; the input reads as it did. -/
def lawS4425BModelSpec : ChangeSpec := { name := "lawS4425BModel", vars := ["example.com/commonground/commonground/vss.kindNames"], fn := fun _ => fun
  | [d1, d2, d3, d4, d5, d6, d7, g1] => { results := [.lit (.bool true)], args := [d1, d2, d3, d4, d5, d6, d7], vars := [g1] }
  | _ => none }
def lawS4425BModelRow : OpenClaim := { program := "ybulkcmpsdoor", sum := "969c05a34938a5503cb05a2fcb46fe4898685ba837f078e814ff07d1a73456ec", func := "example.com/commonground/commonground/coin.LawS4425BModel", spec := "lawS4425BModel", named := ["example.com/commonground/commonground/vss.kindNames"], apart := false, laid := [("example.com/commonground/commonground/vss.kindNames", laid_example_com_commonground_commonground_vss_kindNames)] }
def LawS4425BModelSaid : Prop := lawS4425BModelRow.holds Ybad.pinned (OpenSpec.ofChange lawS4425BModelSpec)

/-- ITS FALSE NEIGHBOUR: 'it returns false'. Refute it at one input. -/
def lawS4425BModelWrong : ChangeSpec := { name := "lawS4425BModel", vars := ["example.com/commonground/commonground/vss.kindNames"], fn := fun _ => fun
  | [d1, d2, d3, d4, d5, d6, d7, g1] => { results := [.lit (.bool false)], args := [d1, d2, d3, d4, d5, d6, d7], vars := [g1] }
  | _ => none }
def LawS4425BModelWrongFalsely : Prop := lawS4425BModelRow.holds Ybad.pinned (OpenSpec.ofChange lawS4425BModelWrong)

end Rows
end Go.Proofs.YbulkcmpsDoor
