/-
  A slice of pairs of strings that came in, opened into what the walks ask.
-/
import Derived.Test.YbulkacreOneWalk
import Derived.ProofKit
import Derived.OpenShut
import Derived.ShutString
import Derived.ChangeOld
import Derived.Deep.SlicePairs
namespace Go.Proofs.Ybulkacre
open Go.ChangeShapes Go.WideShapes Go.ChangeAt Go.RowKit

theorem own : ownKnob Yba.prog.godebug = none := by kernel_rfl
theorem laidOut : laidOutB Yba.prog = true := by kernel_rfl
theorem Yba.cells93 : Yba.prog.cellsOf 93 = 2 := by kernel_rfl
theorem Yba.cells9 : Yba.prog.cellsOf 9 = 1 := by kernel_rfl

/-- Empty, at whatever address; or at an address, its pairs in their cells. -/
def Came (w : World) (a : Option Addr) (len : Nat) : Prop := len = 0 ∨ ∃ b off ps, a = some ⟨b, off, none⟩ ∧ List.length ps = len ∧ Pairs w.heap.size w b off ps

theorem came_of {H : Type} {enc : TypeId × Value → H} {w : World} {base : Nat} {spare : Nat → Bool} {held : Bool} {a : Option Addr} {len cap : Nat} {d : DataW H} {p : List MemPlace} (h : DataW.Trod enc Yba.prog w base spare held 22 (.slice a len cap) d p) : Came w a len := by
  obtain ⟨fuel, hf⟩ := h
  rcases Go.Deep.open_slice_pairs Yba.underlying22 Yba.underlying93 Yba.cells93 rfl rfl Yba.cells9 Yba.cells9 hf with ⟨hcs, _⟩ | ⟨x, l, c, m, n, V0, V1, D0, D1, P0, P1, hcs, _, hl, _, hm, _, hx⟩
  · simp [Value.cells] at hcs
    exact Or.inl hcs.2.1
  · simp [Value.cells] at hcs
    obtain ⟨rfl, rfl, rfl⟩ := hcs
    by_cases h0 : len = 0
    · exact Or.inl h0
    · right
      have hlm : len ≤ m := by rw [hm]; split <;> omega
      have each : ∀ i, i < len → ∃ q : P2, w.cell? (x.add (i * 2)) = some (.string q.1) ∧ w.cell? (x.add (i * 2 + 1)) = some (.string q.2) := by
        intro i hi
        obtain ⟨h1, h2, h3, h4⟩ := hx i (by omega)
        obtain ⟨s0, e0, _⟩ := DataW.trod_string Yba.underlying9 h3
        obtain ⟨s1, e1, _⟩ := DataW.trod_string Yba.underlying9 h4
        simp at e0 e1
        exact ⟨(s0, s1), by rw [h1, e0], by rw [h2, e1]⟩
      obtain ⟨q, hq⟩ := Go.Deep.choose_lt each
      obtain ⟨b, off, spot⟩ := x
      have hspot : spot = none := by simpa [Addr.add] using World.cell?_spot (hq 0 (by omega)).1
      subst hspot
      have hlt : b < w.heap.size := by
        have h := (hq 0 (by omega)).1
        rw [add_plain] at h
        exact World.block_lt_of_cell? w _ h
      refine ⟨b, off, (List.range len).map q, rfl, by simp, hlt, fun i hi => ?_, fun i hi => ?_⟩
      · have := (hq i (by simpa using hi)).1
        rw [add_plain] at this
        simpa using this
      · have := (hq i (by simpa using hi)).2
        rw [add_plain] at this
        simpa [Nat.add_assoc] using this

end Go.Proofs.Ybulkacre
