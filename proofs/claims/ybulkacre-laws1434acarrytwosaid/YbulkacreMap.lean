/-
  The map that 'newAdmissions' makes, keyed by a breakpoint (a string and an int), holding pointers: look-up and store as equations on the run.
-/
import Derived.Test.YbulkacreContains
import Derived.MapKept
import Derived.ChangeMaps5
import Derived.Carry
namespace Go.Proofs.Ybulkacre
open Go.RowKit
open Go.ChangeMaps (setBlock heap_setBlock_same heap_setBlock_other)

/-- A breakpoint as a map's key. -/
abbrev keyV (a : ByteArray) (x : Int) : Value := .agg #[.string a, .int .i64 x]
/-- A pointer to the head of a block. -/
abbrev ptrV (b : Nat) : Value := .pointer (some ⟨b, 0, none⟩)
/-- Two breakpoints are one. -/
def sameK (a b : ByteArray) (x y : Int) : Bool := (a == b) && (x == y)

theorem part9 (a : ByteArray) (x : Int) (w : World) : (part 9 #[.string a, .int .i64 x] 0).run Yba.prog w = .ok (.string a) w := by kernel_rfl
theorem part3 (a : ByteArray) (x : Int) (w : World) : (part 3 #[.string a, .int .i64 x] 1).run Yba.prog w = .ok (.int .i64 x) w := by kernel_rfl

theorem equalIn44 (d : Nat) (a b : ByteArray) (x y : Int) (w : World) : (Op.equalIn (d + 2) 44 (keyV a x) (keyV b y)).run Yba.prog w = .ok (sameK a b x y) w := by
  simp [Op.equalIn, run_underlying Yba.underlying44, run_underlying Yba.underlying9, run_underlying Yba.underlying3, part9, part3]
  unfold sameK
  cases a == b <;> by_cases h : x = y <;> simp [h]

theorem equal44 (a b : ByteArray) (x y : Int) (w : World) : (Op.equal 44 (keyV a x) (keyV b y)).run Yba.prog w = .ok (sameK a b x y) w := equalIn44 9998 a b x y w

theorem check44 (e : Bool) (d : Nat) (a : ByteArray) (x : Int) (w : World) : (Instr.checkKey e (d + 2) 44 (keyV a x)).run Yba.prog w = .ok () w := by
  simp [Instr.checkKey, run_underlying Yba.underlying44, run_underlying Yba.underlying9, run_underlying Yba.underlying3, part9, part3]

/-- The block that the map holds at a breakpoint. -/
def look (ents : List (ByteArray × Int × Nat)) (a : ByteArray) (x : Int) : Option Nat :=
  match ents with
  | [] => none
  | e :: r => if sameK a e.1 x e.2.1 then some e.2.2 else look r a x

/-- The map's entries are these, in this order. -/
def Holds2 (es : List MapEntry) (ents : List (ByteArray × Int × Nat)) : Prop := es.map (fun e => (e.key, e.val)) = ents.map (fun e => (keyV e.1 e.2.1, ptrV e.2.2))

theorem holds2_cons {e : MapEntry} {es : List MapEntry} {ents : List (ByteArray × Int × Nat)} (h : Holds2 (e :: es) ents) : ∃ x r, ents = x :: r ∧ e.key = keyV x.1 x.2.1 ∧ e.val = ptrV x.2.2 ∧ Holds2 es r := by
  cases ents with
  | nil => simp [Holds2] at h
  | cons x r =>
    simp only [Holds2, List.map_cons, List.cons.injEq, Prod.mk.injEq] at h
    exact ⟨x, r, rfl, h.1.1, h.1.2, h.2⟩

theorem find_run (a : ByteArray) (x : Int) (w : World) : ∀ (es : List MapEntry) (ents : List (ByteArray × Int × Nat)) (i : Nat), Holds2 es ents →
    ∃ r, (Instr.findAsking 44 (keyV a x) es i).run Yba.prog w = .ok r w ∧ r.map (·.2) = (look ents a x).map ptrV
  | [], ents, i, h => by
    have he : ents = [] := by cases ents with | nil => rfl | cons => simp [Holds2] at h
    subst he
    exact ⟨none, by simp [Instr.findAsking], rfl⟩
  | e :: es, ents, i, h => by
    obtain ⟨y, r, rfl, hk, hv, hr⟩ := holds2_cons h
    obtain ⟨q, hq, hq2⟩ := find_run a x w es r (i + 1) hr
    by_cases hs : sameK a y.1 x y.2.1 = true
    · exact ⟨some (i, e.val), by simp [Instr.findAsking, hk, equal44, hs], by simp [look, hs, hv]⟩
    · exact ⟨q, by simp [Instr.findAsking, hk, equal44, hs, hq], by simp [look, hs, hq2]⟩

theorem findKey_run (a : ByteArray) (x : Int) (w : World) (es : List MapEntry) (ents : List (ByteArray × Int × Nat)) (h : Holds2 es ents) :
    ∃ r, (Instr.findKey 44 (keyV a x) es).run Yba.prog w = .ok r w ∧ r.map (·.2) = (look ents a x).map ptrV := by
  cases es with
  | nil =>
    have he : ents = [] := by cases ents with | nil => rfl | cons => simp [Holds2] at h
    subst he
    exact ⟨none, by simp [Instr.findKey, Instr.findNow, run_underlying Yba.underlying44], rfl⟩
  | cons e es =>
    obtain ⟨r, h1, h2⟩ := find_run a x w (e :: es) ents 0 h
    refine ⟨r, ?_, h2⟩
    rw [← h1]
    simp [Instr.findKey, Instr.findNow, Instr.sameNow, run_underlying Yba.underlying44]

/-- 'm[k]': the pointer that is there; nil where there is none. -/
theorem lookup39 (G : Nat) (es : Array MapEntry) (clock : Nat) (ents : List (ByteArray × Int × Nat)) (a : ByteArray) (x : Int) (w : World) (hG : w.heap[G]? = some (.map es clock)) (h : Holds2 es.toList ents) :
    (Instr.lookup 39 (.map (some G)) (keyV a x) false).run Yba.prog w = .ok (.pointer ((look ents a x).map fun b => ⟨b, 0, none⟩)) w := by
  obtain ⟨r, h1, h2⟩ := findKey_run a x w es.toList ents h
  have hc := check44 es.isEmpty 9998 a x w
  cases hl : look ents a x with
  | none =>
    rw [hl] at h2
    have hr : r = none := by cases r with | none => rfl | some => simp at h2
    subst hr
    simp [Instr.lookup, run_underlying Yba.underlying39, MapKept.run_getObj_map hG, hc, h1]
  | some b =>
    rw [hl] at h2
    obtain ⟨p, hr, hp⟩ : ∃ p, r = some p ∧ p.2 = ptrV b := by cases r with | none => simp at h2 | some p => exact ⟨p, rfl, by simpa using h2⟩
    obtain ⟨p1, p2⟩ := p
    simp only at hp
    subst hr hp
    simp [Instr.lookup, run_underlying Yba.underlying39, MapKept.run_getObj_map hG, hc, h1]

/-- 'm[k] = v' where k is not there. -/
theorem update39 (G : Nat) (es : Array MapEntry) (clock : Nat) (ents : List (ByteArray × Int × Nat)) (a : ByteArray) (x : Int) (b : Nat) (w : World) (hG : w.heap[G]? = some (.map es clock)) (h : Holds2 es.toList ents) (hl : look ents a x = none) :
    (Instr.mapUpdate 39 (.map (some G)) (keyV a x) (ptrV b)).run Yba.prog w = .ok () (setBlock w G (.map (es.push { key := keyV a x, val := ptrV b, born := clock }) (clock + 1))) := by
  obtain ⟨r, h1, h2⟩ := findKey_run a x w es.toList ents h
  have hc := check44 false 9998 a x w
  rw [hl] at h2
  have hr : r = none := by cases r with | none => rfl | some => simp at h2
  subst hr
  simp [Instr.mapUpdate, run_underlying Yba.underlying39, MapKept.run_getObj_map hG, hc, h1, MapKept.run_setObj_map _ hG, setBlock]

theorem holds2_push {es : Array MapEntry} {ents : List (ByteArray × Int × Nat)} (h : Holds2 es.toList ents) (a : ByteArray) (x : Int) (b clock : Nat) : Holds2 (es.push { key := keyV a x, val := ptrV b, born := clock }).toList (ents ++ [(a, x, b)]) := by
  unfold Holds2 at h ⊢
  simp [h]

theorem len39 (G : Nat) (es : Array MapEntry) (clock : Nat) (ents : List (ByteArray × Int × Nat)) (w : World) (ty : TypeId) (hG : w.heap[G]? = some (.map es clock)) (h : Holds2 es.toList ents) :
    (Builtin.len_ #[39] ty #[.map (some G)]).run Yba.prog w = .ok (.int .i64 ents.length) w := by
  have hl : es.size = ents.length := by
    have := congrArg List.length h
    simpa using this
  simp [Builtin.len_, run_underlying Yba.underlying39, MapKept.run_getObj_map hG, hl]
  rfl

end Go.Proofs.Ybulkacre
