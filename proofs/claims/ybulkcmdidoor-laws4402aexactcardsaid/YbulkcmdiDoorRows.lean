/-
  NARROWER THAN 'FOR EVERY INPUT', by the rows' own cells (each row's printed sentence says how): LawS4402AExact: laid · LawS4402AWalk: laid.
  DERIVED. THE GIVEN ROWS OF THIS SEAT. 2 by the template 'for every input the law returns true; each argument reads behind the call as it read before'; 0 by the template 'total and deterministic' (their statements: YbulkcmdiDoorTotals.lean).
  GIVEN WITH THE SEED: the statements are not yours to turn. If you find one false, say at which input.
  Laid BY PROGRAM, IN A SANDBOX (cutbox-rows.mjs): the forced cells as the released guide's own fill.sh prints them over the translation 1c7dbeed9a6e1f74… (all of the seat's roots in one cut). By AI agents, Wed Nov 11 2026. No macro, syntax, notation, axiom, sorry.
-/
import Derived.Test.YbulkcmdiDoorChecked
import GoSem.Claim
import GoSem.ClaimJoined
import GoSem.ClaimMapViews
import Derived.JoinedTies
import Derived.KernelRfl
namespace Go.Proofs.YbulkcmdiDoor
/- THE CELL 'sum', in the pinned program and in every row, IS THE sha256 OF THE DUMP (.gsa) THAT YbulkcmdiDoorProg.lean LOADS. Nothing in Lean hashes anything: it is a label: what it is worth is what the hold of that sum in a sandbox is worth. -/
noncomputable def Ybad.pinned : Pinned := { name := "ybulkcmdidoor", sum := "1c7dbeed9a6e1f748061fd903de66869b06ade686c8c7691cb314d9f1f2683ee", checked := Ybad.checked }
namespace Rows
def none {H : Type} : Left H := { results := [], args := [] }

/- WHAT THE LISTED PACKAGE-LEVEL VARIABLES READ AS WHEN THE CALL BEGINS. Each datum BY PROGRAM (the guide's laid-datum.mjs) off the statement by which the dump's own 'gosem.cut.vars' lays the variable. In a bare row this is a premise. The card (YbulkcmdiDoorCards.lean) ties it to the program's text. -/
def laid_example_com_bitloom_bitloom_arith_cmRates {H : Type} : DataW H := .agg [.lit (.int .i32 43690), .lit (.int .i32 26214), .lit (.int .i32 18724), .lit (.int .i32 14563), .lit (.int .i32 11915), .lit (.int .i32 10082), .lit (.int .i32 8738), .lit (.int .i32 7710), .lit (.int .i32 6898), .lit (.int .i32 6241), .lit (.int .i32 5698), .lit (.int .i32 5242), .lit (.int .i32 4854), .lit (.int .i32 4519), .lit (.int .i32 4228), .lit (.int .i32 3971)]

/-- 'arith.LawS4402AExact': WHATEVER THE INPUT: true; the input reads as it did. -/
def lawS4402AExactSpec : ChangeSpec := { name := "lawS4402AExact", vars := ["example.com/bitloom/bitloom/arith.cmRates"], fn := fun _ => fun
  | [d1, d2, d3, g1] => { results := [.lit (.bool true)], args := [d1, d2, d3], vars := [g1] }
  | _ => none }
def lawS4402AExactRow : OpenClaim := { program := "ybulkcmdidoor", sum := "1c7dbeed9a6e1f748061fd903de66869b06ade686c8c7691cb314d9f1f2683ee", func := "example.com/bitloom/bitloom/arith.LawS4402AExact", spec := "lawS4402AExact", named := ["example.com/bitloom/bitloom/arith.cmRates"], apart := false, laid := [("example.com/bitloom/bitloom/arith.cmRates", laid_example_com_bitloom_bitloom_arith_cmRates)] }
def LawS4402AExactSaid : Prop := lawS4402AExactRow.holds Ybad.pinned (OpenSpec.ofChange lawS4402AExactSpec)

/-- ITS FALSE NEIGHBOUR: 'it returns false'. Refute it at one input. -/
def lawS4402AExactWrong : ChangeSpec := { name := "lawS4402AExact", vars := ["example.com/bitloom/bitloom/arith.cmRates"], fn := fun _ => fun
  | [d1, d2, d3, g1] => { results := [.lit (.bool false)], args := [d1, d2, d3], vars := [g1] }
  | _ => none }
def LawS4402AExactWrongFalsely : Prop := lawS4402AExactRow.holds Ybad.pinned (OpenSpec.ofChange lawS4402AExactWrong)

/-- 'arith.LawS4402AWalk': WHATEVER THE INPUT: true; the input reads as it did. -/
def lawS4402AWalkSpec : ChangeSpec := { name := "lawS4402AWalk", vars := ["example.com/bitloom/bitloom/arith.cmRates"], fn := fun _ => fun
  | [d1, d2, d3, g1] => { results := [.lit (.bool true)], args := [d1, d2, d3], vars := [g1] }
  | _ => none }
def lawS4402AWalkRow : OpenClaim := { program := "ybulkcmdidoor", sum := "1c7dbeed9a6e1f748061fd903de66869b06ade686c8c7691cb314d9f1f2683ee", func := "example.com/bitloom/bitloom/arith.LawS4402AWalk", spec := "lawS4402AWalk", named := ["example.com/bitloom/bitloom/arith.cmRates"], apart := false, laid := [("example.com/bitloom/bitloom/arith.cmRates", laid_example_com_bitloom_bitloom_arith_cmRates)] }
def LawS4402AWalkSaid : Prop := lawS4402AWalkRow.holds Ybad.pinned (OpenSpec.ofChange lawS4402AWalkSpec)

/-- ITS FALSE NEIGHBOUR: 'it returns false'. Refute it at one input. -/
def lawS4402AWalkWrong : ChangeSpec := { name := "lawS4402AWalk", vars := ["example.com/bitloom/bitloom/arith.cmRates"], fn := fun _ => fun
  | [d1, d2, d3, g1] => { results := [.lit (.bool false)], args := [d1, d2, d3], vars := [g1] }
  | _ => none }
def LawS4402AWalkWrongFalsely : Prop := lawS4402AWalkRow.holds Ybad.pinned (OpenSpec.ofChange lawS4402AWalkWrong)

end Rows
end Go.Proofs.YbulkcmdiDoor
