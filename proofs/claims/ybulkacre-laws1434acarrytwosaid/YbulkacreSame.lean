/-
  'zzs1434asame' at two rows that hold the same pairs; 'zzs1434aok' over it.
-/
import Derived.Test.YbulkacreModel
namespace Go.Proofs.Ybulkacre
open Go.RowKit

set_option maxHeartbeats 1000000 in
set_option maxRecDepth 100000 in
theorem same_true (L : List P2) (g1 c1 g2 c2 : Nat) (w : World) (hL : L.length ≤ 4096) (hx0 : ∀ j (h : j < L.length), w.cell? ⟨g1, j * 2, none⟩ = some (.string (L[j]).1)) (hx1 : ∀ j (h : j < L.length), w.cell? ⟨g1, j * 2 + 1, none⟩ = some (.string (L[j]).2))
    (hy0 : ∀ j (h : j < L.length), w.cell? ⟨g2, j * 2, none⟩ = some (.string (L[j]).1)) (hy1 : ∀ j (h : j < L.length), w.cell? ⟨g2, j * 2 + 1, none⟩ = some (.string (L[j]).2)) :
    Calls Yba.prog 14 #[.slice (some ⟨g1, 0, none⟩) L.length c1, .slice (some ⟨g2, 0, none⟩) L.length c2] w fun e w' => e = .returned (.bool true) ∧ ∃ q, w' = w.drewN q := by
  obtain ⟨n, hn⟩ : ∃ n, n = L.length := ⟨_, rfl⟩
  rw [← hn]
  have HN := hide hn
  have hn1 : n ≤ 4096 := by omega
  have HX := hide (And.intro hx0 (And.intro hx1 (And.intro hy0 hy1)))
  clear hn hL hx0 hx1 hy0 hy1
  go_enter Yba.func14, Yba.ntmps14
  go_wp2
  go_loopg [5] n (fun r i wr => ∃ j q : Nat, j + r = n ∧ i = .int .i64 j ∧ wr = w.drewN q)
  case atStart => exact ⟨0, 0, by omega, rfl, rfl⟩
  case round =>
    obtain ⟨j, q, hj, rfl, rfl⟩ := hrel
    by_cases hjn : j < n
    · have hjl : j < L.length := by have := HN.out; omega
      have hx0 := HX.out.1 j hjl
      have hx1 := HX.out.2.1 j hjl
      have hy0 := HX.out.2.2.1 j hjl
      have hy1 := HX.out.2.2.2 j hjl
      have hj0 : (0 : Int) ≤ (j : Int) := by omega
      have hj1 : (j : Int) < (n : Int) := by omega
      go_wp2
      go_quiet (fail)
      go_wp2
      go_roundg (n - (j + 1))
      case measure => omega
      case rel => exact ⟨j + 1, _, by omega, by go_num, rfl⟩
    · obtain rfl : j = n := by omega
      go_wp2
      go_ret
      exact ⟨rfl, q, rfl⟩

/-- The cells of an entry of the kind that 'add' makes. -/
abbrev entryV (t : ByteArray) (s : Int) (v : Value) : Array Value := #[.int .u8 65, .bool true, .string t, .int .i64 0, .pointer none, .int .i64 s, .slice none 0 0, v, .slice none 0 0]

set_option maxHeartbeats 1000000 in
set_option maxRecDepth 100000 in
theorem ok_true (L : List P2) (E : Nat) (t : ByteArray) (s : Int) (B1 B2 : Nat) (v1 v2 : Value) (w : World) (hpos : 0 < L.length) (hL : L.length ≤ 4096)
    (hE : w.heap[E]? = some (.cells (entryV t s v1) 33 (0, 0))) (h1 : w.ownsRow B1 91 2 v1 L.length (pc L)) (h2 : w.ownsRow B2 91 2 v2 L.length (pc L)) :
    Calls Yba.prog 10 #[.pointer (some ⟨E, 0, none⟩), .string t, .int .i64 s, v2] w fun e w' => e = .returned (.bool true) ∧ ∃ q, w' = w.drewN q := by
  obtain ⟨g1, c1, rfl, _, _⟩ := h1.form hpos
  obtain ⟨g2, c2, rfl, _, _⟩ := h2.form hpos
  have hS := same_true L g1 c1 g2 c2 w hL (own_cell0 h1) (own_cell1 h1) (own_cell0 h2) (own_cell1 h2)
  have e0 := row_cell hE 0
  have e1 := row_cell hE 1
  have e2 := row_cell hE 2
  have e4 := row_cell hE 4
  have e5 := row_cell hE 5
  have e6 := row_cell hE 6
  have e7 := row_cell hE 7
  have e8 := row_cell hE 8
  simp only [entryV, List.getElem?_toArray, List.getElem?_cons_zero, List.getElem?_cons_succ] at e0 e1 e2 e4 e5 e6 e7 e8
  clear hE h1 h2
  go_enter Yba.func10, Yba.ntmps10
  go_wp2_with fail
  refine hS.mono ?_
  rintro e w' ⟨rfl, q, rfl⟩
  go_wp2
  go_ret
  exact ⟨rfl, q, rfl⟩

end Go.Proofs.Ybulkacre
