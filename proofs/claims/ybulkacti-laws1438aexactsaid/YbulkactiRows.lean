/-
  No cell of these rows narrows 'for every input' (looked for: loops, veiled, ifaces, maps, wideKeys, modest, calm, conditions, laid).
  DERIVED. THE GIVEN ROWS OF THIS SEAT. 3 by the template 'for every input the law returns true; each argument reads behind the call as it read before'; 0 by the template 'total and deterministic' (their statements: YbulkactiTotals.lean).
  GIVEN WITH THE SEED: the statements are not yours to turn. If you find one false, say at which input.
  Laid BY PROGRAM, IN A SANDBOX (cutbox-rows.mjs): the forced cells as the released guide's own fill.sh prints them over the translation 987ff9c27be814d1… (all of the seat's roots in one cut). By AI agents, Wed Nov 11 2026. No macro, syntax, notation, axiom, sorry.
-/
import Derived.Test.YbulkactiChecked
import GoSem.Claim
import GoSem.ClaimJoined
import GoSem.ClaimMapViews
import Derived.JoinedTies
import Derived.KernelRfl
namespace Go.Proofs.Ybulkacti
/- THE CELL 'sum', in the pinned program and in every row, IS THE sha256 OF THE DUMP (.gsa) THAT YbulkactiProg.lean LOADS. Nothing in Lean hashes anything: it is a label: what it is worth is what the hold of that sum in a sandbox is worth. -/
noncomputable def Yba.pinned : Pinned := { name := "ybulkacti", sum := "987ff9c27be814d1cfd285e0718c4fe3bed02aef5308487bd393c2594a654fce", checked := Yba.checked }
namespace Rows
def none {H : Type} : Left H := { results := [], args := [] }

/-- 'jsonopts.LawS1438AExact': WHATEVER THE INPUT: true; the input reads as it did. -/
def lawS1438AExactSpec : ChangeSpec := { name := "lawS1438AExact", fn := fun _ => fun
  | [d1, d2, d3, d4] => { results := [.lit (.bool true)], args := [d1, d2, d3, d4] }
  | _ => none }
def lawS1438AExactRow : OpenClaim := { program := "ybulkacti", sum := "987ff9c27be814d1cfd285e0718c4fe3bed02aef5308487bd393c2594a654fce", func := "example.com/vancouver/vancouver/internal/jsonopts.LawS1438AExact", spec := "lawS1438AExact", apart := false }
def LawS1438AExactSaid : Prop := lawS1438AExactRow.holds Yba.pinned (OpenSpec.ofChange lawS1438AExactSpec)

/-- ITS FALSE NEIGHBOUR: 'it returns false'. Refute it at one input. -/
def lawS1438AExactWrong : ChangeSpec := { name := "lawS1438AExact", fn := fun _ => fun
  | [d1, d2, d3, d4] => { results := [.lit (.bool false)], args := [d1, d2, d3, d4] }
  | _ => none }
def LawS1438AExactWrongFalsely : Prop := lawS1438AExactRow.holds Yba.pinned (OpenSpec.ofChange lawS1438AExactWrong)

/-- 'jsonopts.LawS1438ABoolAgrees': WHATEVER THE INPUT: true; the input reads as it did. -/
def lawS1438ABoolAgreesSpec : ChangeSpec := { name := "lawS1438ABoolAgrees", fn := fun _ => fun
  | [d1, d2, d3, d4] => { results := [.lit (.bool true)], args := [d1, d2, d3, d4] }
  | _ => none }
def lawS1438ABoolAgreesRow : OpenClaim := { program := "ybulkacti", sum := "987ff9c27be814d1cfd285e0718c4fe3bed02aef5308487bd393c2594a654fce", func := "example.com/vancouver/vancouver/internal/jsonopts.LawS1438ABoolAgrees", spec := "lawS1438ABoolAgrees", apart := false }
def LawS1438ABoolAgreesSaid : Prop := lawS1438ABoolAgreesRow.holds Yba.pinned (OpenSpec.ofChange lawS1438ABoolAgreesSpec)

/-- ITS FALSE NEIGHBOUR: 'it returns false'. Refute it at one input. -/
def lawS1438ABoolAgreesWrong : ChangeSpec := { name := "lawS1438ABoolAgrees", fn := fun _ => fun
  | [d1, d2, d3, d4] => { results := [.lit (.bool false)], args := [d1, d2, d3, d4] }
  | _ => none }
def LawS1438ABoolAgreesWrongFalsely : Prop := lawS1438ABoolAgreesRow.holds Yba.pinned (OpenSpec.ofChange lawS1438ABoolAgreesWrong)

/-- 'jsonopts.LawS1438AIdem': WHATEVER THE INPUT: true; the input reads as it did. -/
def lawS1438AIdemSpec : ChangeSpec := { name := "lawS1438AIdem", fn := fun _ => fun
  | [d1, d2, d3, d4] => { results := [.lit (.bool true)], args := [d1, d2, d3, d4] }
  | _ => none }
def lawS1438AIdemRow : OpenClaim := { program := "ybulkacti", sum := "987ff9c27be814d1cfd285e0718c4fe3bed02aef5308487bd393c2594a654fce", func := "example.com/vancouver/vancouver/internal/jsonopts.LawS1438AIdem", spec := "lawS1438AIdem", apart := false }
def LawS1438AIdemSaid : Prop := lawS1438AIdemRow.holds Yba.pinned (OpenSpec.ofChange lawS1438AIdemSpec)

/-- ITS FALSE NEIGHBOUR: 'it returns false'. Refute it at one input. -/
def lawS1438AIdemWrong : ChangeSpec := { name := "lawS1438AIdem", fn := fun _ => fun
  | [d1, d2, d3, d4] => { results := [.lit (.bool false)], args := [d1, d2, d3, d4] }
  | _ => none }
def LawS1438AIdemWrongFalsely : Prop := lawS1438AIdemRow.holds Yba.pinned (OpenSpec.ofChange lawS1438AIdemWrong)

end Rows
end Go.Proofs.Ybulkacti
