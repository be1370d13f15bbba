/-
  No cell of these rows narrows 'for every input' (looked for: loops, veiled, ifaces, maps, wideKeys, modest, calm, conditions, laid).
  DERIVED. THE GIVEN ROWS OF THIS SEAT. 2 by the template 'for every input the law returns true; each argument reads behind the call as it read before'; 0 by the template 'total and deterministic' (their statements: YbulkacqcTotals.lean).
  GIVEN WITH THE SEED: the statements are not yours to turn. If you find one false, say at which input.
  Laid BY PROGRAM, IN A SANDBOX (cutbox-rows.mjs): the forced cells as the released guide's own fill.sh prints them over the translation b67e7373ca15a460… (all of the seat's roots in one cut). By AI agents, Wed Nov 11 2026. No macro, syntax, notation, axiom, sorry.
-/
import Derived.Test.YbulkacqcChecked
import GoSem.Claim
import GoSem.ClaimJoined
import GoSem.ClaimMapViews
import Derived.JoinedTies
import Derived.KernelRfl
namespace Go.Proofs.Ybulkacqc
/- THE CELL 'sum', in the pinned program and in every row, IS THE sha256 OF THE DUMP (.gsa) THAT YbulkacqcProg.lean LOADS. Nothing in Lean hashes anything: it is a label: what it is worth is what the hold of that sum in a sandbox is worth. -/
noncomputable def Yba.pinned : Pinned := { name := "ybulkacqc", sum := "b67e7373ca15a4603c316e585e4a7b21bbd0ccb7bf83396989deab00506202f7", checked := Yba.checked }
namespace Rows
def none {H : Type} : Left H := { results := [], args := [] }

/-- 'regblob.LawS1432CExact': WHATEVER THE INPUT: true; the input reads as it did. -/
def lawS1432CExactSpec : ChangeSpec := { name := "lawS1432CExact", fn := fun _ => fun
  | [d1, d2, d3] => { results := [.lit (.bool true)], args := [d1, d2, d3] }
  | _ => none }
def lawS1432CExactRow : OpenClaim := { program := "ybulkacqc", sum := "b67e7373ca15a4603c316e585e4a7b21bbd0ccb7bf83396989deab00506202f7", func := "example.com/blobwright/blobwright/regblob.LawS1432CExact", spec := "lawS1432CExact", named := ["encoding/binary.LittleEndian"], apart := false }
def LawS1432CExactSaid : Prop := lawS1432CExactRow.holds Yba.pinned (OpenSpec.ofChange lawS1432CExactSpec)

/-- ITS FALSE NEIGHBOUR: 'it returns false'. Refute it at one input. -/
def lawS1432CExactWrong : ChangeSpec := { name := "lawS1432CExact", fn := fun _ => fun
  | [d1, d2, d3] => { results := [.lit (.bool false)], args := [d1, d2, d3] }
  | _ => none }
def LawS1432CExactWrongFalsely : Prop := lawS1432CExactRow.holds Yba.pinned (OpenSpec.ofChange lawS1432CExactWrong)

/-- 'regblob.LawS1432CConcat': WHATEVER THE INPUT: true; the input reads as it did. -/
def lawS1432CConcatSpec : ChangeSpec := { name := "lawS1432CConcat", fn := fun _ => fun
  | [d1, d2, d3, d4] => { results := [.lit (.bool true)], args := [d1, d2, d3, d4] }
  | _ => none }
def lawS1432CConcatRow : OpenClaim := { program := "ybulkacqc", sum := "b67e7373ca15a4603c316e585e4a7b21bbd0ccb7bf83396989deab00506202f7", func := "example.com/blobwright/blobwright/regblob.LawS1432CConcat", spec := "lawS1432CConcat", named := ["encoding/binary.LittleEndian"], apart := false }
def LawS1432CConcatSaid : Prop := lawS1432CConcatRow.holds Yba.pinned (OpenSpec.ofChange lawS1432CConcatSpec)

/-- ITS FALSE NEIGHBOUR: 'it returns false'. Refute it at one input. -/
def lawS1432CConcatWrong : ChangeSpec := { name := "lawS1432CConcat", fn := fun _ => fun
  | [d1, d2, d3, d4] => { results := [.lit (.bool false)], args := [d1, d2, d3, d4] }
  | _ => none }
def LawS1432CConcatWrongFalsely : Prop := lawS1432CConcatRow.holds Yba.pinned (OpenSpec.ofChange lawS1432CConcatWrong)

end Rows
end Go.Proofs.Ybulkacqc
