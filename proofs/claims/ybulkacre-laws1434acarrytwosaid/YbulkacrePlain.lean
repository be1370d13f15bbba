/-
  The plain side: lists of pairs of strings, and the cells that such a list takes.
-/
import Derived.Below
namespace Go.Proofs.Ybulkacre
open Go.RowKit

/-- A step type and a transaction. -/
abbrev P2 := ByteArray × ByteArray

/-- Two strings are the same, as the walk spells it. -/
def sameT (a b : ByteArray) : Bool := a.toList == b.toList
/-- Some pair of l has the step type t. -/
def hasT (l : List P2) (t : ByteArray) : Bool := l.any fun y => sameT y.1 t
/-- One admission taken in: the first of its step type is kept. -/
def addL (l : List P2) (x : P2) : List P2 := if hasT l x.1 then l else l ++ [x]
def modelL (l : List P2) (xs : List P2) : List P2 := xs.foldl addL l

theorem modelL_nil (l : List P2) : modelL l [] = l := rfl
theorem modelL_snoc (l xs : List P2) (x : P2) : modelL l (xs ++ [x]) = addL (modelL l xs) x := by simp [modelL]
theorem modelL_append (l xs ys : List P2) : modelL l (xs ++ ys) = modelL (modelL l xs) ys := by simp [modelL]
theorem addL_len (l : List P2) (x : P2) : l.length ≤ (addL l x).length ∧ (addL l x).length ≤ l.length + 1 := by
  unfold addL
  split <;> simp
theorem modelL_len (xs : List P2) : ∀ l : List P2, l.length ≤ (modelL l xs).length ∧ (modelL l xs).length ≤ l.length + xs.length := by
  induction xs with
  | nil => intro l; simp [modelL_nil]
  | cons x xs ih =>
    intro l
    have h1 := addL_len l x
    have h2 := ih (addL l x)
    have e : modelL l (x :: xs) = modelL (addL l x) xs := rfl
    rw [e]
    simp only [List.length_cons]
    omega
theorem modelL_pos (l : List P2) (x : P2) (xs : List P2) : 0 < (modelL l (x :: xs)).length := by
  have h2 := (modelL_len xs (addL l x)).1
  have e : modelL l (x :: xs) = modelL (addL l x) xs := rfl
  rw [e]
  have : 0 < (addL l x).length := by
    unfold addL
    split
    · rename_i h
      cases l with
      | nil => simp [hasT] at h
      | cons => simp
    · simp
  omega

/-- The cells of a row of such pairs. -/
def pc (l : List P2) : List Value := l.flatMap fun p => [.string p.1, .string p.2]
theorem pc_nil : pc [] = [] := rfl
theorem pc_cons (p : P2) (l : List P2) : pc (p :: l) = .string p.1 :: .string p.2 :: pc l := rfl
theorem pc_append (a b : List P2) : pc (a ++ b) = pc a ++ pc b := by simp [pc]
theorem pc_one (p : P2) : pc [p] = [.string p.1, .string p.2] := rfl
theorem pc_length (l : List P2) : (pc l).length = l.length * 2 := by
  induction l with
  | nil => rfl
  | cons p l ih => simp [pc_cons, ih]; omega
theorem pc_oneCell (l : List P2) : ∀ u ∈ pc l, u.oneCell' = true := by
  intro u hu
  simp only [pc, List.mem_flatMap] at hu
  obtain ⟨p, _, hp⟩ := hu
  simp at hp
  rcases hp with rfl | rfl <;> rfl
theorem pc_get0 : ∀ (l : List P2) (i : Nat) (h : i < l.length), (pc l)[i * 2]? = some (.string (l[i]).1)
  | p :: l, 0, _ => by simp [pc_cons]
  | p :: l, i + 1, h => by
    have e : (i + 1) * 2 = i * 2 + 1 + 1 := by omega
    simp only [pc_cons, e, List.getElem?_cons_succ, List.getElem_cons_succ]
    exact pc_get0 l i (by simpa using h)
theorem pc_get1 : ∀ (l : List P2) (i : Nat) (h : i < l.length), (pc l)[i * 2 + 1]? = some (.string (l[i]).2)
  | p :: l, 0, _ => by simp [pc_cons]
  | p :: l, i + 1, h => by
    have e : (i + 1) * 2 + 1 = i * 2 + 1 + 1 + 1 := by omega
    simp only [pc_cons, e, List.getElem?_cons_succ, List.getElem_cons_succ]
    exact pc_get1 l i (by simpa using h)

theorem take_snoc2 (l : List P2) (k : Nat) (h : k < l.length) : l.take (k + 1) = l.take k ++ [l[k]] := List.take_succ_eq_append_getElem h

end Go.Proofs.Ybulkacre
