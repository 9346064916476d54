/-
  No cell of these rows narrows 'for every input' (looked for: loops, veiled, ifaces, maps, wideKeys, modest, calm, conditions, laid).
  DERIVED. THE GIVEN ROWS OF THIS SEAT. 3 by the template 'for every input the law returns true; each argument reads behind the call as it read before'; 0 by the template 'total and deterministic' (their statements: YbulkcmdiTotals.lean).
  GIVEN WITH THE SEED: the statements are not yours to turn. If you find one false, say at which input.
  Laid BY PROGRAM, IN A SANDBOX (cutbox-rows.mjs): the forced cells as the released guide's own fill.sh prints them over the translation bb74a48e58941c89… (all of the seat's roots in one cut). By AI agents, Wed Nov 11 2026. No macro, syntax, notation, axiom, sorry.
-/
import Derived.Test.YbulkcmdiChecked
import GoSem.Claim
import GoSem.ClaimJoined
import GoSem.ClaimMapViews
import Derived.JoinedTies
import Derived.KernelRfl
namespace Go.Proofs.Ybulkcmdi
/- THE CELL 'sum', in the pinned program and in every row, IS THE sha256 OF THE DUMP (.gsa) THAT YbulkcmdiProg.lean LOADS. Nothing in Lean hashes anything: it is a label: what it is worth is what the hold of that sum in a sandbox is worth. -/
noncomputable def Yba.pinned : Pinned := { name := "ybulkcmdi", sum := "bb74a48e58941c89642861c6803bc4d5e2f403bf8ed5a4febced4a63f7b8cf01", checked := Yba.checked }
namespace Rows
def none {H : Type} : Left H := { results := [], args := [] }

/-- 'transform.LawS4402BMatchesModel': WHATEVER THE INPUT: true; the input reads as it did. -/
def lawS4402BMatchesModelSpec : ChangeSpec := { name := "lawS4402BMatchesModel", fn := fun _ => fun
  | [d1, d2] => { results := [.lit (.bool true)], args := [d1, d2] }
  | _ => none }
def lawS4402BMatchesModelRow : OpenClaim := { program := "ybulkcmdi", sum := "bb74a48e58941c89642861c6803bc4d5e2f403bf8ed5a4febced4a63f7b8cf01", func := "example.com/bitloom/bitloom/transform.LawS4402BMatchesModel", spec := "lawS4402BMatchesModel", inPlace := ["internal/reflectlite.ValueOf", "internal/reflectlite.Swapper", "(internal/reflectlite.Value).Len"], unfollowed := true, recurses := true, apart := false }
def LawS4402BMatchesModelSaid : Prop := lawS4402BMatchesModelRow.holds Yba.pinned (OpenSpec.ofChange lawS4402BMatchesModelSpec)

/-- ITS FALSE NEIGHBOUR: 'it returns false'. Refute it at one input. -/
def lawS4402BMatchesModelWrong : ChangeSpec := { name := "lawS4402BMatchesModel", fn := fun _ => fun
  | [d1, d2] => { results := [.lit (.bool false)], args := [d1, d2] }
  | _ => none }
def LawS4402BMatchesModelWrongFalsely : Prop := lawS4402BMatchesModelRow.holds Yba.pinned (OpenSpec.ofChange lawS4402BMatchesModelWrong)

/-- 'arith.LawS4402CScript': WHATEVER THE INPUT: true; the input reads as it did. -/
def lawS4402CScriptSpec : ChangeSpec := { name := "lawS4402CScript", fn := fun _ => fun
  | [d1, d2, d3] => { results := [.lit (.bool true)], args := [d1, d2, d3] }
  | _ => none }
def lawS4402CScriptRow : OpenClaim := { program := "ybulkcmdi", sum := "bb74a48e58941c89642861c6803bc4d5e2f403bf8ed5a4febced4a63f7b8cf01", func := "example.com/bitloom/bitloom/arith.LawS4402CScript", spec := "lawS4402CScript", unfollowed := true, recurses := true, apart := false }
def LawS4402CScriptSaid : Prop := lawS4402CScriptRow.holds Yba.pinned (OpenSpec.ofChange lawS4402CScriptSpec)

/-- ITS FALSE NEIGHBOUR: 'it returns false'. Refute it at one input. -/
def lawS4402CScriptWrong : ChangeSpec := { name := "lawS4402CScript", fn := fun _ => fun
  | [d1, d2, d3] => { results := [.lit (.bool false)], args := [d1, d2, d3] }
  | _ => none }
def LawS4402CScriptWrongFalsely : Prop := lawS4402CScriptRow.holds Yba.pinned (OpenSpec.ofChange lawS4402CScriptWrong)

/-- 'arith.LawS4402CCount': WHATEVER THE INPUT: true; the input reads as it did. -/
def lawS4402CCountSpec : ChangeSpec := { name := "lawS4402CCount", fn := fun _ => fun
  | [d1, d2, d3, d4] => { results := [.lit (.bool true)], args := [d1, d2, d3, d4] }
  | _ => none }
def lawS4402CCountRow : OpenClaim := { program := "ybulkcmdi", sum := "bb74a48e58941c89642861c6803bc4d5e2f403bf8ed5a4febced4a63f7b8cf01", func := "example.com/bitloom/bitloom/arith.LawS4402CCount", spec := "lawS4402CCount", apart := false }
def LawS4402CCountSaid : Prop := lawS4402CCountRow.holds Yba.pinned (OpenSpec.ofChange lawS4402CCountSpec)

/-- ITS FALSE NEIGHBOUR: 'it returns false'. Refute it at one input. -/
def lawS4402CCountWrong : ChangeSpec := { name := "lawS4402CCount", fn := fun _ => fun
  | [d1, d2, d3, d4] => { results := [.lit (.bool false)], args := [d1, d2, d3, d4] }
  | _ => none }
def LawS4402CCountWrongFalsely : Prop := lawS4402CCountRow.holds Yba.pinned (OpenSpec.ofChange lawS4402CCountWrong)

end Rows
end Go.Proofs.Ybulkcmdi
