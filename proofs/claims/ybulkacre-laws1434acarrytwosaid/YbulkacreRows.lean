/-
  No cell of these rows narrows 'for every input' (looked for: loops, veiled, ifaces, maps, wideKeys, modest, calm, conditions, laid).
  DERIVED. THE GIVEN ROWS OF THIS SEAT. 3 by the template 'for every input the law returns true; each argument reads behind the call as it read before'; 0 by the template 'total and deterministic' (their statements: YbulkacreTotals.lean).
  GIVEN WITH THE SEED: the statements are not yours to turn. If you find one false, say at which input.
  Laid BY PROGRAM, IN A SANDBOX (cutbox-rows.mjs): the forced cells as the released guide's own fill.sh prints them over the translation ffcdb61d712cb4e4… (all of the seat's roots in one cut). By AI agents, Wed Nov 11 2026. No macro, syntax, notation, axiom, sorry.
-/
import Derived.Test.YbulkacreChecked
import GoSem.Claim
import GoSem.ClaimJoined
import GoSem.ClaimMapViews
import Derived.JoinedTies
import Derived.KernelRfl
namespace Go.Proofs.Ybulkacre
/- THE CELL 'sum', in the pinned program and in every row, IS THE sha256 OF THE DUMP (.gsa) THAT YbulkacreProg.lean LOADS. Nothing in Lean hashes anything: it is a label: what it is worth is what the hold of that sum in a sandbox is worth. -/
noncomputable def Yba.pinned : Pinned := { name := "ybulkacre", sum := "ffcdb61d712cb4e43a5642caf25cdde400d872350a7b55169f70d191a4fcac36", checked := Yba.checked }
namespace Rows
def none {H : Type} : Left H := { results := [], args := [] }

/-- 'journal.LawS1434ACarryOne': WHATEVER THE INPUT: true; the input reads as it did. -/
def lawS1434ACarryOneSpec : ChangeSpec := { name := "lawS1434ACarryOne", fn := fun _ => fun
  | [d1, d2, d3] => { results := [.lit (.bool true)], args := [d1, d2, d3] }
  | _ => none }
def lawS1434ACarryOneRow : OpenClaim := { program := "ybulkacre", sum := "ffcdb61d712cb4e43a5642caf25cdde400d872350a7b55169f70d191a4fcac36", func := "example.com/stepweave/stepweave/internal/journal.LawS1434ACarryOne", spec := "lawS1434ACarryOne", unfollowed := true, recurses := true, plainKeys := false, apart := false }
def LawS1434ACarryOneSaid : Prop := lawS1434ACarryOneRow.holds Yba.pinned (OpenSpec.ofChange lawS1434ACarryOneSpec)

/-- ITS FALSE NEIGHBOUR: 'it returns false'. Refute it at one input. -/
def lawS1434ACarryOneWrong : ChangeSpec := { name := "lawS1434ACarryOne", fn := fun _ => fun
  | [d1, d2, d3] => { results := [.lit (.bool false)], args := [d1, d2, d3] }
  | _ => none }
def LawS1434ACarryOneWrongFalsely : Prop := lawS1434ACarryOneRow.holds Yba.pinned (OpenSpec.ofChange lawS1434ACarryOneWrong)

/-- 'journal.LawS1434ACarryTwo': WHATEVER THE INPUT: true; the input reads as it did. -/
def lawS1434ACarryTwoSpec : ChangeSpec := { name := "lawS1434ACarryTwo", fn := fun _ => fun
  | [d1, d2, d3, d4, d5, d6] => { results := [.lit (.bool true)], args := [d1, d2, d3, d4, d5, d6] }
  | _ => none }
def lawS1434ACarryTwoRow : OpenClaim := { program := "ybulkacre", sum := "ffcdb61d712cb4e43a5642caf25cdde400d872350a7b55169f70d191a4fcac36", func := "example.com/stepweave/stepweave/internal/journal.LawS1434ACarryTwo", spec := "lawS1434ACarryTwo", unfollowed := true, recurses := true, plainKeys := false, apart := false }
def LawS1434ACarryTwoSaid : Prop := lawS1434ACarryTwoRow.holds Yba.pinned (OpenSpec.ofChange lawS1434ACarryTwoSpec)

/-- ITS FALSE NEIGHBOUR: 'it returns false'. Refute it at one input. -/
def lawS1434ACarryTwoWrong : ChangeSpec := { name := "lawS1434ACarryTwo", fn := fun _ => fun
  | [d1, d2, d3, d4, d5, d6] => { results := [.lit (.bool false)], args := [d1, d2, d3, d4, d5, d6] }
  | _ => none }
def LawS1434ACarryTwoWrongFalsely : Prop := lawS1434ACarryTwoRow.holds Yba.pinned (OpenSpec.ofChange lawS1434ACarryTwoWrong)

/-- 'stepweave.LawS1434CCover': WHATEVER THE INPUT: true; the input reads as it did. -/
def lawS1434CCoverSpec : ChangeSpec := { name := "lawS1434CCover", fn := fun _ => fun
  | [d1, d2, d3, d4, d5, d6, d7, d8, d9, d10] => { results := [.lit (.bool true)], args := [d1, d2, d3, d4, d5, d6, d7, d8, d9, d10] }
  | _ => none }
def lawS1434CCoverRow : OpenClaim := { program := "ybulkacre", sum := "ffcdb61d712cb4e43a5642caf25cdde400d872350a7b55169f70d191a4fcac36", func := "example.com/stepweave/stepweave.LawS1434CCover", spec := "lawS1434CCover", unfollowed := true, recurses := true, plainKeys := false, apart := false }
def LawS1434CCoverSaid : Prop := lawS1434CCoverRow.holds Yba.pinned (OpenSpec.ofChange lawS1434CCoverSpec)

/-- ITS FALSE NEIGHBOUR: 'it returns false'. Refute it at one input. -/
def lawS1434CCoverWrong : ChangeSpec := { name := "lawS1434CCover", fn := fun _ => fun
  | [d1, d2, d3, d4, d5, d6, d7, d8, d9, d10] => { results := [.lit (.bool false)], args := [d1, d2, d3, d4, d5, d6, d7, d8, d9, d10] }
  | _ => none }
def LawS1434CCoverWrongFalsely : Prop := lawS1434CCoverRow.holds Yba.pinned (OpenSpec.ofChange lawS1434CCoverWrong)

end Rows
end Go.Proofs.Ybulkacre
