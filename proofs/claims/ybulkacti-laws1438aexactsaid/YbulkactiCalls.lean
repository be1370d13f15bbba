/-
  The contracts of the functions on the law's road.
-/
import Derived.Test.YbulkactiRows
import Derived.WalkKit
import Derived.WalkSpells
import Derived.WalkLawsBesides
import Derived.Deep.DeepCutAuto
import Derived.OpenShut
namespace Go.Proofs.Ybulkacti
open Go.RowKit

theorem hide {p : Prop} (h : p) : Hid p := h

/-- Every flag of g is set in f. -/
def hasB (f g : Int) : Bool := bits .and .u64 f g == g

theorem has8 (f g : Int) (w : World) : Calls Yba.prog 8 #[.int .u64 f, .int .u64 g] w fun e w' => e = .returned (.bool (hasB f g)) ∧ w = w' := by
  go_enter Yba.func8, Yba.ntmps8
  go_wp2
  go_ret
  exact ⟨rfl, rfl⟩

theorem has10 (f g : Int) (w : World) : Calls Yba.prog 10 #[.int .u64 f, .int .u64 g] w fun e w' => e = .returned (.bool (hasB f g)) ∧ w = w' := by
  go_enter Yba.func10, Yba.ntmps10
  go_wp2
  go_ret
  exact ⟨rfl, rfl⟩

/-- A Set as it lies in memory. -/
abbrev setV (f g m u : Int) (i p : ByteArray) : Array Value := #[.int .u64 f, .int .u64 g, .iface 3 (.int .i64 m), .iface 3 (.int .i64 u), .string i, .string p]

/-- What slot 5 of 'build' holds behind each test: the flags that are given, with some of the four bits set. -/
def Gv (g : Int) (s : Value) : Prop := ∃ g', s = .int .u64 g' ∧ (g' = g ∨ (Lit.int .u64 g').wf = true)

set_option maxHeartbeats 1000000 in
theorem build_any (f g m u : Int) (i p : ByteArray) (pick : Int) (w : World) :
    Calls Yba.prog 6 #[.agg #[.int .u64 f, .int .u64 g, .int .i64 m, .int .i64 u, .string i, .string p], .int .u8 pick] w
      fun e w' => ∃ g' c1 c2, e = .returned (.agg (setV f g' m u i p)) ∧ (g' = g ∨ (Lit.int .u64 g').wf = true) ∧ w' = (w.alloc (.cells c1 24)).alloc (.cells c2 27) := by
  go_enter Yba.func6, Yba.ntmps6
  go_upto_if 10 with fail
  go_cut [5] (fun s w' => Gv g s ∧ w' = (w.alloc (.cells #[.int .u64 f, .int .u64 g, .int .i64 m, .int .i64 u, .string i, .string p] 24)).alloc (.cells #[.int .u64 0, .int .u64 0, .nilIface, .nilIface, .string ByteArray.empty, .string ByteArray.empty] 27))
  case first =>
    go_wp2
    all_goals
      go_meet
      case rel => exact ⟨⟨_, rfl, by first | exact Or.inl rfl | exact Or.inr (wf_bits _ _ _ _)⟩, rfl⟩
  obtain ⟨⟨g1, rfl, h1⟩, rfl⟩ := hcut
  go_upto_if 15 with fail
  go_cut [5] (fun s w' => Gv g s ∧ w' = (w.alloc (.cells #[.int .u64 f, .int .u64 g, .int .i64 m, .int .i64 u, .string i, .string p] 24)).alloc (.cells #[.int .u64 0, .int .u64 0, .nilIface, .nilIface, .string ByteArray.empty, .string ByteArray.empty] 27))
  case first =>
    go_wp2
    all_goals
      go_meet
      case rel => exact ⟨⟨_, rfl, by first | exact h1 | exact Or.inr (wf_bits _ _ _ _)⟩, rfl⟩
  obtain ⟨⟨g2, rfl, h2⟩, rfl⟩ := hcut
  go_upto_if 20 with fail
  go_cut [5] (fun s w' => Gv g s ∧ w' = (w.alloc (.cells #[.int .u64 f, .int .u64 g, .int .i64 m, .int .i64 u, .string i, .string p] 24)).alloc (.cells #[.int .u64 0, .int .u64 0, .nilIface, .nilIface, .string ByteArray.empty, .string ByteArray.empty] 27))
  case first =>
    go_wp2
    all_goals
      go_meet
      case rel => exact ⟨⟨_, rfl, by first | exact h2 | exact Or.inr (wf_bits _ _ _ _)⟩, rfl⟩
  obtain ⟨⟨g3, rfl, h3⟩, rfl⟩ := hcut
  go_upto_if 25 with fail
  go_cut [5] (fun s w' => Gv g s ∧ w' = (w.alloc (.cells #[.int .u64 f, .int .u64 g, .int .i64 m, .int .i64 u, .string i, .string p] 24)).alloc (.cells #[.int .u64 0, .int .u64 0, .nilIface, .nilIface, .string ByteArray.empty, .string ByteArray.empty] 27))
  case first =>
    go_wp2
    all_goals
      go_meet
      case rel => exact ⟨⟨_, rfl, by first | exact h3 | exact Or.inr (wf_bits _ _ _ _)⟩, rfl⟩
  obtain ⟨⟨g4, rfl, h4⟩, rfl⟩ := hcut
  go_wp2
  exact bodyPost_ret (v := .agg (setV f g4 m u i p)) (by simp [results, Yba.results6, go_sem, setV]) rfl ⟨g4, _, _, rfl, h4, rfl⟩

end Go.Proofs.Ybulkacti
