/-
  The closure of 'add', slices.IndexFunc and slices.ContainsFunc over it.
-/
import Derived.Test.YbulkacreSame
namespace Go.Proofs.Ybulkacre
open Go.RowKit

/-- The closure: its own parameter by value, the captured admission by its address. -/
theorem clo_any (a u t : ByteArray) (c : Nat) (w : World) (hc : w.cell? ⟨c, 0, none⟩ = some (.string t)) :
    Calls Yba.prog 22 #[.agg #[.string a, .string u], .pointer (some ⟨c, 0, none⟩)] w fun e w' => e = .returned (.bool (sameT a t)) ∧ w' = w.alloc (.cells #[.string a, .string u] 91) := by
  have hcl : c < w.heap.size := World.block_lt_of_cell? w _ hc
  go_enter Yba.func22, Yba.ntmps22
  go_wp2
  go_ret
  exact ⟨rfl, rfl⟩

theorem has_of {L : List P2} {j : Nat} {t : ByteArray} (h : j < L.length) (he : sameT (L[j]).1 t = true) : hasT L t = true := by
  unfold hasT
  rw [List.any_eq_true]
  exact ⟨L[j], List.getElem_mem h, he⟩
theorem hasnt_of {L : List P2} {n : Nat} {t : ByteArray} (hn : n = L.length) (h : hasT (L.take n) t = false) : hasT L t = false := by
  rw [hn, List.take_length] at h
  exact h

set_option maxHeartbeats 1000000 in
set_option maxRecDepth 100000 in
theorem index_any (L : List P2) (g cp : Nat) (t : ByteArray) (c : Nat) (w : World) (hL : L.length ≤ 4096) (hc : w.cell? ⟨c, 0, none⟩ = some (.string t)) (hx0 : ∀ j (h : j < L.length), w.cell? ⟨g, j * 2, none⟩ = some (.string (L[j]).1)) (hx1 : ∀ j (h : j < L.length), w.cell? ⟨g, j * 2 + 1, none⟩ = some (.string (L[j]).2)) :
    Calls Yba.prog 29 #[.slice (some ⟨g, 0, none⟩) L.length cp, .func (.func 22) #[] #[.pointer (some ⟨c, 0, none⟩)]] w fun e w' => ∃ i : Int, e = .returned (.int .i64 i) ∧ decide (0 ≤ i) = hasT L t ∧ Below w.heap.size w w' := by
  obtain ⟨n, hn⟩ : ∃ n, n = L.length := ⟨_, rfl⟩
  rw [← hn]
  have HN := hide hn
  have hn1 : n ≤ 4096 := by omega
  have HX := hide (And.intro hx0 hx1)
  have hcl : c < w.heap.size := World.block_lt_of_cell? w _ hc
  clear hn hL hx0 hx1
  go_enter Yba.func29, Yba.ntmps29
  go_wp2
  go_loopg [8] n (fun r i wr => ∃ j : Nat, j + r = n ∧ i = .int .i64 j ∧ hasT (L.take j) t = false ∧ Below w.heap.size w wr)
  case atStart => exact ⟨0, by omega, rfl, rfl, Below.refl _ _⟩
  case round =>
    obtain ⟨j, hj, rfl, hno, hbl⟩ := hrel
    by_cases hjn : j < n
    · have hjl : j < L.length := by have := HN.out; omega
      have hx0 := HX.out.1 j hjl
      have hx1 := HX.out.2 j hjl
      have hgl : g < w.heap.size := World.block_lt_of_cell? w _ hx0
      rw [← hbl.cell (by exact hgl)] at hx0 hx1
      have hcr : wr.cell? ⟨c, 0, none⟩ = some (.string t) := by rw [hbl.cell (by exact hcl)]; exact hc
      have hj0 : (0 : Int) ≤ (j : Int) := by omega
      have hj1 : (j : Int) < (n : Int) := by omega
      have HNO := hide hno
      clear hno
      go_wp2_with fail
      refine (clo_any _ _ t c wr hcr).mono ?_
      rintro e w' ⟨rfl, rfl⟩
      cases hE : sameT (L[j]).1 t
      · go_wp2
        go_roundg (n - (j + 1))
        case measure => omega
        case rel => exact ⟨j + 1, by omega, by go_num, by rw [hasT_snoc L j hjl, hE, HNO.out]; rfl, hbl.alloc hbl.size _⟩
      · go_wp2
        go_ret
        exact ⟨j, rfl, by rw [has_of hjl hE]; simp, hbl.alloc hbl.size _⟩
    · obtain rfl : j = n := by omega
      have HNO := hide hno
      clear hno
      go_wp2
      go_ret
      exact ⟨-1, rfl, by rw [hasnt_of HN.out HNO.out]; rfl, hbl⟩

set_option maxHeartbeats 1000000 in
theorem index_zero (a : Option Addr) (cp : Nat) (f : Value) (w : World) :
    Calls Yba.prog 29 #[.slice a 0 cp, f] w fun e w' => e = .returned (.int .i64 (-1)) ∧ w' = w := by
  go_enter Yba.func29, Yba.ntmps29
  go_wp2
  refine wp_loop_rounds 1 ?_
  rw [rounds_succ]
  go_wp2
  go_ret
  exact ⟨rfl, rfl⟩

set_option maxHeartbeats 1000000 in
/-- slices.ContainsFunc over the closure: some pair has the step type t. -/
theorem contains_any (B : Nat) (L : List P2) (v : Value) (t : ByteArray) (c : Nat) (w : World) (hL : L.length ≤ 4096) (hc : w.cell? ⟨c, 0, none⟩ = some (.string t)) (hown : w.ownsRow B 91 2 v L.length (pc L)) :
    Calls Yba.prog 23 #[v, .func (.func 22) #[] #[.pointer (some ⟨c, 0, none⟩)]] w fun e w' => e = .returned (.bool (hasT L t)) ∧ Below w.heap.size w w' := by
  by_cases h0 : L.length = 0
  · have hLe : L = [] := List.eq_nil_of_length_eq_zero h0
    subst hLe
    obtain ⟨ao, cp, rfl⟩ := own_shape hown
    clear hown
    go_enter Yba.func23, Yba.ntmps23
    go_wp2_with fail
    refine (index_zero _ _ _ _).mono ?_
    rintro e w' ⟨rfl, rfl⟩
    go_wp2
    go_ret
    exact ⟨rfl, Below.refl _ _⟩
  · obtain ⟨g, cp, rfl, _, _⟩ := hown.form (by omega)
    have hI := index_any L g cp t c w hL hc (own_cell0 hown) (own_cell1 hown)
    clear hown
    go_enter Yba.func23, Yba.ntmps23
    go_wp2_with fail
    refine hI.mono ?_
    rintro e w' ⟨i, rfl, hi, hb⟩
    have HI := hide hi
    clear hi
    go_wp2
    go_ret
    exact ⟨by rw [← HI.out]; rfl, hb⟩

end Go.Proofs.Ybulkacre
