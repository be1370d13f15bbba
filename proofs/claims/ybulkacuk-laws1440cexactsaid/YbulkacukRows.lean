/-
  No cell of these rows narrows 'for every input' (looked for: loops, veiled, ifaces, maps, wideKeys, modest, calm, conditions, laid).
  DERIVED. THE GIVEN ROWS OF THIS SEAT. 2 by the template 'for every input the law returns true; each argument reads behind the call as it read before'; 0 by the template 'total and deterministic' (their statements: YbulkacukTotals.lean).
  GIVEN WITH THE SEED: the statements are not yours to turn. If you find one false, say at which input.
  Laid BY PROGRAM, IN A SANDBOX (cutbox-rows.mjs): the forced cells as the released guide's own fill.sh prints them over the translation 35cd0363969223c6… (all of the seat's roots in one cut). By AI agents, Wed Nov 11 2026. No macro, syntax, notation, axiom, sorry.
-/
import Derived.Test.YbulkacukChecked
import GoSem.Claim
import GoSem.ClaimJoined
import GoSem.ClaimMapViews
import Derived.JoinedTies
import Derived.KernelRfl
namespace Go.Proofs.Ybulkacuk
/- THE CELL 'sum', in the pinned program and in every row, IS THE sha256 OF THE DUMP (.gsa) THAT YbulkacukProg.lean LOADS. Nothing in Lean hashes anything: it is a label: what it is worth is what the hold of that sum in a sandbox is worth. -/
noncomputable def Yba.pinned : Pinned := { name := "ybulkacuk", sum := "35cd0363969223c681ace0b2e4bfe543de7f9723d76e12643434b07039046176", checked := Yba.checked }
namespace Rows
def none {H : Type} : Left H := { results := [], args := [] }

/-- 'reglage.LawS1440CExact': WHATEVER THE INPUT: true; the input reads as it did. -/
def lawS1440CExactSpec : ChangeSpec := { name := "lawS1440CExact", fn := fun _ => fun
  | [d1, d2, d3, d4] => { results := [.lit (.bool true)], args := [d1, d2, d3, d4] }
  | _ => none }
def lawS1440CExactRow : OpenClaim := { program := "ybulkacuk", sum := "35cd0363969223c681ace0b2e4bfe543de7f9723d76e12643434b07039046176", func := "example.com/reglage/reglage.LawS1440CExact", spec := "lawS1440CExact", apart := false }
def LawS1440CExactSaid : Prop := lawS1440CExactRow.holds Yba.pinned (OpenSpec.ofChange lawS1440CExactSpec)

/-- ITS FALSE NEIGHBOUR: 'it returns false'. Refute it at one input. -/
def lawS1440CExactWrong : ChangeSpec := { name := "lawS1440CExact", fn := fun _ => fun
  | [d1, d2, d3, d4] => { results := [.lit (.bool false)], args := [d1, d2, d3, d4] }
  | _ => none }
def LawS1440CExactWrongFalsely : Prop := lawS1440CExactRow.holds Yba.pinned (OpenSpec.ofChange lawS1440CExactWrong)

/-- 'reglage.LawS1440COrigins': WHATEVER THE INPUT: true; the input reads as it did. -/
def lawS1440COriginsSpec : ChangeSpec := { name := "lawS1440COrigins", fn := fun _ => fun
  | [d1, d2] => { results := [.lit (.bool true)], args := [d1, d2] }
  | _ => none }
def lawS1440COriginsRow : OpenClaim := { program := "ybulkacuk", sum := "35cd0363969223c681ace0b2e4bfe543de7f9723d76e12643434b07039046176", func := "example.com/reglage/reglage.LawS1440COrigins", spec := "lawS1440COrigins", apart := false }
def LawS1440COriginsSaid : Prop := lawS1440COriginsRow.holds Yba.pinned (OpenSpec.ofChange lawS1440COriginsSpec)

/-- ITS FALSE NEIGHBOUR: 'it returns false'. Refute it at one input. -/
def lawS1440COriginsWrong : ChangeSpec := { name := "lawS1440COrigins", fn := fun _ => fun
  | [d1, d2] => { results := [.lit (.bool false)], args := [d1, d2] }
  | _ => none }
def LawS1440COriginsWrongFalsely : Prop := lawS1440COriginsRow.holds Yba.pinned (OpenSpec.ofChange lawS1440COriginsWrong)

end Rows
end Go.Proofs.Ybulkacuk
