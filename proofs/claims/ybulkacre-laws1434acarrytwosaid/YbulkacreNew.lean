/-
  'newAdmissions'; 'carry' of an entry without admissions; '!=' on two pointers that are one.
-/
import Derived.Test.YbulkacreCarryNew
import Derived.LaidEqlPtr
import Derived.Lib.Builder
namespace Go.Proofs.Ybulkacre
open Go.RowKit

set_option maxHeartbeats 1000000 in
theorem new_any (w : World) :
    Calls Yba.prog 6 #[] w fun e w' => e = .returned (ptrV (w.heap.size + 1 + 1 + 1)) ∧ w' = (((w.alloc (.map #[] 0)).alloc (.map #[] 0)).alloc (.map #[] 0)).alloc (.cells (admV w.heap.size (w.heap.size + 1) (w.heap.size + 1 + 1) (.slice none 0 0)) 42) := by
  have hmm := @run_makeMap Yba.prog
  go_enter Yba.func6, Yba.ntmps6
  go_wp2
  go_ret
  exact ⟨rfl, rfl⟩

set_option maxHeartbeats 1000000 in
theorem carry_zero (A Q : Nat) (t : ByteArray) (s : Int) (a : Option Addr) (c : Nat) (w : World) (hQ : w.heap[Q]? = some (.cells (entryV t s (.slice a 0 c)) 33 (0, 0))) :
    Calls Yba.prog 7 #[ptrV A, ptrV Q] w fun e w' => e = .returned (.tuple #[]) ∧ w' = w := by
  have q7 := ent7 hQ
  clear hQ
  go_enter Yba.func7, Yba.ntmps7
  go_wp2
  refine wp_loop_rounds 1 ?_
  rw [rounds_succ]
  go_wp2
  go_end0
  exact ⟨rfl, rfl⟩

theorem neq26 (a : Addr) (w : World) : (binOp .neq 26 (.pointer (some a)) (.pointer (some a))).run Yba.prog w = .ok (.bool false) w := by
  obtain ⟨j, hj⟩ := Option.isSome_iff_exists.1 (show (Yba.prog.info? 33).isSome = true by kernel_rfl)
  exact Lib.run_neq_ptr_same w a Yba.underlying26 hj
theorem eql26 (a : Addr) (w : World) : (binOp .eql 26 (.pointer (some a)) (.pointer (some a))).run Yba.prog w = .ok (.bool true) w := by
  obtain ⟨j, hj⟩ := Option.isSome_iff_exists.1 (show (Yba.prog.info? 33).isSome = true by kernel_rfl)
  exact run_eql_ptr_same w a Yba.underlying26 hj

/-- The four blocks that 'newAdmissions' makes. -/
theorem new_blocks (w : World) : ((((w.alloc (.map #[] 0)).alloc (.map #[] 0)).alloc (.map #[] 0)).alloc (.cells (admV w.heap.size (w.heap.size + 1) (w.heap.size + 1 + 1) (.slice none 0 0)) 42)).heap[w.heap.size + 1 + 1]? = some (.map #[] 0) ∧
    ((((w.alloc (.map #[] 0)).alloc (.map #[] 0)).alloc (.map #[] 0)).alloc (.cells (admV w.heap.size (w.heap.size + 1) (w.heap.size + 1 + 1) (.slice none 0 0)) 42)).heap[w.heap.size + 1 + 1 + 1]? = some (.cells (admV w.heap.size (w.heap.size + 1) (w.heap.size + 1 + 1) (.slice none 0 0)) 42 (0, 0)) ∧
    Below w.heap.size w ((((w.alloc (.map #[] 0)).alloc (.map #[] 0)).alloc (.map #[] 0)).alloc (.cells (admV w.heap.size (w.heap.size + 1) (w.heap.size + 1 + 1) (.slice none 0 0)) 42)) := by
  refine ⟨?_, ?_, ?_⟩
  · show ((((w.heap.push _).push _).push _).push _)[_]? = _
    simp only [Array.getElem?_push, Array.size_push]
    rw [if_neg (by omega), if_pos (by first | trivial | omega)]
  · show ((((w.heap.push _).push _).push _).push _)[_]? = _
    simp only [Array.getElem?_push, Array.size_push]
    rw [if_pos (by first | trivial | omega)]
  · exact ((((Below.refl _ w).alloc (by simp) _).alloc (by simp) _).alloc (by simp; omega) _).alloc (by simp; omega) _

/-- 'newAdmissions', in letters: the admissions at A, the map at G, both new, both empty. -/
theorem new_letters (w : World) :
    Calls Yba.prog 6 #[] w fun e w' => ∃ A S R G, e = .returned (ptrV A) ∧ w'.heap[A]? = some (.cells (admV S R G (.slice none 0 0)) 42 (0, 0)) ∧ w'.heap[G]? = some (.map #[] 0) ∧ w.heap.size ≤ A ∧ w.heap.size ≤ G ∧ Below w.heap.size w w' := by
  refine (new_any w).mono ?_
  rintro e w' ⟨rfl, rfl⟩
  obtain ⟨h1, h2, h3⟩ := new_blocks w
  exact ⟨_, _, _, _, rfl, h2, h1, by omega, by omega, h3⟩

end Go.Proofs.Ybulkacre
