/-
  '(*admissions).add' where the breakpoint is known already.
-/
import Derived.Test.YbulkacreMap
import Derived.Deep.RegionLaw
namespace Go.Proofs.Ybulkacre
open Go.RowKit
open Go.ChangeMaps (setBlock heap_setBlock_same heap_setBlock_other)
attribute [local go_sem ↓] Go.wp_at_zero Go.wp_at_succ

/-- The cells of the admissions. -/
abbrev admV (S R G : Nat) (mv : Value) : Array Value := #[.int .i64 0, .map (some S), .slice none 0 0, .slice none 0 0, .map (some R), .map (some G), mv]

/-- Of the blocks that w had, those alone have turned of which T says so. -/
structure Kept (w w' : World) (T : Nat → Prop) : Prop where
  os : w'.os = w.os
  tape : w'.tape = w.tape
  output : w'.output = w.output
  size : w.heap.size ≤ w'.heap.size
  block : ∀ k, k < w.heap.size → ¬ T k → w'.heap[k]? = w.heap[k]?

theorem Kept.of_below {w w' : World} (T : Nat → Prop) (h : Below w.heap.size w w') : Kept w w' T := ⟨h.os, h.tape, h.output, h.size, fun k hk _ => h.block k hk⟩
theorem Kept.trans {w w1 w2 : World} {T T1 T2 : Nat → Prop} (h : Kept w w1 T1) (k : Kept w1 w2 T2) (h1 : ∀ i, i < w.heap.size → T1 i → T i) (h2 : ∀ i, i < w.heap.size → T2 i → T i) : Kept w w2 T :=
  ⟨k.os.trans h.os, k.tape.trans h.tape, k.output.trans h.output, Nat.le_trans h.size k.size, fun i hi hn => (k.block i (Nat.lt_of_lt_of_le hi h.size) (fun ht => hn (h2 i hi ht))).trans (h.block i hi (fun ht => hn (h1 i hi ht)))⟩
theorem Kept.below {w w' : World} {T : Nat → Prop} (h : Kept w w' T) (B : Nat) (hB : B ≤ w.heap.size) (hT : ∀ k, k < B → ¬ T k) : Below B w w' :=
  ⟨h.os, h.tape, h.output, h.size, fun k hk => h.block k (by omega) (hT k hk)⟩

theorem adm5 {w : World} {A S R G : Nat} {mv : Value} (h : w.heap[A]? = some (.cells (admV S R G mv) 42 (0, 0))) : w.cell? ⟨A, 5, none⟩ = some (.map (some G)) := by
  rw [row_cell h 5]; rfl
theorem adm6 {w : World} {A S R G : Nat} {mv : Value} (h : w.heap[A]? = some (.cells (admV S R G mv) 42 (0, 0))) : w.cell? ⟨A, 6, none⟩ = some mv := by
  rw [row_cell h 6]; rfl
theorem ent7 {w : World} {E : Nat} {t : ByteArray} {s : Int} {v : Value} (h : w.heap[E]? = some (.cells (entryV t s v) 33 (0, 0))) : w.cell? ⟨E, 7, none⟩ = some v := by
  rw [row_cell h 7]; rfl
theorem lt_heap {w : World} {b : Nat} {o : Obj} (h : w.heap[b]? = some o) : b < w.heap.size := (Array.getElem?_eq_some_iff.1 h).1

theorem own_keep {w w' : World} {B n : Nat} {v : Value} {xs : List Value} {e : TypeId} {sz : Nat} (h : w.ownsRow B e sz v n xs) (hb : ∀ k, v.ownBlock = some k → w'.heap[k]? = w.heap[k]?) : w'.ownsRow B e sz v n xs := by
  refine ⟨h.1, ?_⟩
  rcases h.2 with hn | ⟨g, cap, cur, rfl, hB, hg, r⟩
  · exact Or.inl hn
  · exact Or.inr ⟨g, cap, cur, rfl, hB, by rw [hb g rfl]; exact hg, r⟩

/-- A row of one element type is no block of another. -/
theorem own_type {w : World} {B n : Nat} {v : Value} {xs : List Value} {e e' : TypeId} {sz : Nat} (h : w.ownsRow B e sz v n xs) {b : Nat} {c : Array Value} (hb : w.heap[b]? = some (.cells c e' (0, 0))) (hne : e ≠ e') : some b ≠ v.ownBlock := by
  intro he
  rcases h.2 with ⟨rfl, _⟩ | ⟨g, cap, cur, rfl, _, hg, _⟩
  · simp [Value.ownBlock] at he
  · simp only [Value.ownBlock, Option.some.injEq] at he
    subst he
    rw [hb] at hg
    simp only [Option.some.injEq, Obj.cells.injEq] at hg
    exact hne hg.2.1.symm

theorem own_map {w : World} {B n : Nat} {v : Value} {xs : List Value} {e : TypeId} {sz : Nat} (h : w.ownsRow B e sz v n xs) {b : Nat} {es : Array MapEntry} {clock : Nat} (hb : w.heap[b]? = some (.map es clock)) : some b ≠ v.ownBlock := by
  intro he
  rcases h.2 with ⟨rfl, _⟩ | ⟨g, cap, cur, rfl, _, hg, _⟩
  · simp [Value.ownBlock] at he
  · simp only [Value.ownBlock, Option.some.injEq] at he
    subst he
    rw [hb] at hg
    simp at hg

theorem own_new {w : World} {B n : Nat} {v : Value} {xs : List Value} {e : TypeId} {sz : Nat} (h : w.ownsRow B e sz v n xs) {b : Nat} (hb : w.heap.size ≤ b) : some b ≠ v.ownBlock := fun he => by
  have := (h.lt b he.symm).2
  omega

/-- Behind the two boxes, some draws and the search: what w held is there, and the boxes. -/
theorem after_two {w w2 : World} {o1 o2 : Obj} {q : Nat} (h : Below (((w.alloc o1).alloc o2).drewN q).heap.size (((w.alloc o1).alloc o2).drewN q) w2) :
    w.heap.size + 2 ≤ w2.heap.size ∧ Below w.heap.size w w2 ∧ w2.heap[w.heap.size]? = some o1 ∧ w2.heap[w.heap.size + 1]? = some o2 := by
  have hsz : (((w.alloc o1).alloc o2).drewN q).heap.size = w.heap.size + 2 := by simp
  have h1 := h.size
  rw [hsz] at h h1
  have hb : Below w.heap.size w (((w.alloc o1).alloc o2).drewN q) := below_drewN (((Below.refl _ w).alloc (Nat.le_refl _) _).alloc (by simp) _) q
  refine ⟨h1, hb.trans (h.mono (by omega)), ?_, ?_⟩
  · rw [h.block _ (by omega), World.heap_drewN, Below.heap_alloc _ _ _ (by simp)]
    exact heap_alloc_new _ _
  · rw [h.block _ (by omega), World.heap_drewN]
    have := heap_alloc_new (w.alloc o1) o2
    simpa using this

theorem far_row {w2 w3 : World} {o : Obj} {row : Option Nat} {E : Nat} {c : Obj} (hg : (w2.alloc o).drew.grownBy w3 row) (hE : some E ≠ row) (h : w2.heap[E]? = some c) : w3.heap[E]? = some c := by
  have hl := lt_heap h
  have e : (w2.alloc o).drew.heap[E]? = w2.heap[E]? := Below.heap_alloc w2 o E hl
  have hl2 : E < (w2.alloc o).drew.heap.size := by simp; omega
  rw [hg.block E hl2 hE, e]
  exact h

theorem Kept.setCell {w w' : World} {T : Nat → Prop} (h : Kept w w' T) {E k : Nat} (v : Value) (hE : ∀ i, i = E → i < w.heap.size → T i) : Kept w (w'.setCell ⟨E, k, none⟩ v) T :=
  ⟨h.os, h.tape, h.output, by simpa [World.setCell] using h.size, fun i hi hn => by rw [Below.heap_setCell _ _ _ _ (fun e => hn (hE i e hi))]; exact h.block i hi hn⟩
theorem Kept.grown {w w' w2 : World} {T : Nat → Prop} {row : Option Nat} (h : Kept w w' T) (g : w'.grownBy w2 row) (hr : ∀ i, some i = row → i < w.heap.size → T i) : Kept w w2 T :=
  ⟨g.os.trans h.os, g.tape.trans h.tape, g.output.trans h.output, Nat.le_trans h.size g.size, fun i hi hn => (g.block i (Nat.lt_of_lt_of_le hi h.size) (fun e => hn (hr i e hi))).trans (h.block i hi hn)⟩
theorem Kept.alloc {w w' : World} {T : Nat → Prop} (h : Kept w w' T) (o : Obj) : Kept w (w'.alloc o) T := h.grown (World.grownBy_alloc w' o none) (fun i hi => by cases hi)
theorem Kept.drew {w w' : World} {T : Nat → Prop} (h : Kept w w' T) : Kept w w'.drew T := ⟨h.os, h.tape, h.output, h.size, h.block⟩

/-- The end of 'add' where the admission is appended to the entry at E. -/
theorem add_end {w w2 w3 : World} {B E gg cap : Nat} {t0 : ByteArray} {s0 : Int} {v : Value} {L : List P2} {x1 x2 : ByteArray} {o : Obj} {T : Nat → Prop} (hK : Kept w w2 T) (hS : hasT L x1 = false) (hs2 : w.heap.size ≤ w2.heap.size)
    (hgrow : (w2.alloc o).drew.grownBy w3 v.ownBlock) (hown : w3.ownsRow B 91 2 (.slice (some ⟨gg, 0, none⟩) (L.length + 1) cap) (L.length + 1) (pc L ++ [.string x1, .string x2])) (hat : v.ownBlock = some gg ∨ gg = w2.heap.size + 1)
    (hE3 : w3.heap[E]? = some (.cells (entryV t0 s0 v) 33 (0, 0))) :
    ∃ v', (w3.setCell ⟨E, 7, none⟩ (.slice (some ⟨gg, 0, none⟩) (L.length + 1) cap)).heap[E]? = some (.cells (entryV t0 s0 v') 33 (0, 0)) ∧
      (w3.setCell ⟨E, 7, none⟩ (.slice (some ⟨gg, 0, none⟩) (L.length + 1) cap)).ownsRow B 91 2 v' (addL L (x1, x2)).length (pc (addL L (x1, x2))) ∧ (v'.ownBlock = v.ownBlock ∨ ∃ g, v'.ownBlock = some g ∧ w.heap.size ≤ g) ∧
      Kept w (w3.setCell ⟨E, 7, none⟩ (.slice (some ⟨gg, 0, none⟩) (L.length + 1) cap)) (fun k => T k ∨ k = E ∨ some k = v.ownBlock) := by
  have hadd : addL L (x1, x2) = L ++ [(x1, x2)] := by simp [addL, hS]
  have hneE := own_type hown hE3 (by decide)
  refine ⟨.slice (some ⟨gg, 0, none⟩) (L.length + 1) cap, heap_setCell_row hE3 7 _, ?_, ?_, ?_⟩
  · rw [hadd, List.length_append, pc_append, pc_one]
    exact own_keep hown (fun k hk => Below.heap_setCell _ _ _ _ (fun e => hneE (by rw [hk]; exact congrArg some e.symm)))
  · rcases hat with h | h
    · exact Or.inl h.symm
    · exact Or.inr ⟨gg, rfl, by omega⟩
  · have hK' : Kept w w2 (fun k => T k ∨ k = E ∨ some k = v.ownBlock) := ⟨hK.os, hK.tape, hK.output, hK.size, fun k hk hn => hK.block k hk (fun ht => hn (Or.inl ht))⟩
    exact ((hK'.alloc o).drew.grown hgrow (fun i hi _ => Or.inr (Or.inr hi))).setCell _ (fun i hi _ => Or.inr (Or.inl hi))

set_option maxHeartbeats 2000000 in
set_option maxRecDepth 100000 in
theorem add_old (B A S R G E : Nat) (mv : Value) (es : Array MapEntry) (clock : Nat) (ents : List (ByteArray × Int × Nat)) (t : ByteArray) (s : Int) (x : P2) (t0 : ByteArray) (s0 : Int) (v : Value) (L : List P2) (w : World)
    (hA : w.heap[A]? = some (.cells (admV S R G mv) 42 (0, 0))) (hG : w.heap[G]? = some (.map es clock)) (hH : Holds2 es.toList ents) (hl : look ents t s = some E)
    (hE : w.heap[E]? = some (.cells (entryV t0 s0 v) 33 (0, 0))) (hv : w.ownsRow B 91 2 v L.length (pc L)) (hBw : B ≤ w.heap.size) (hL : L.length ≤ 2048) :
    Calls Yba.prog 13 #[ptrV A, keyV t s, .agg #[.string x.1, .string x.2]] w fun e w' => e = .returned (.tuple #[]) ∧ ∃ v',
      w'.heap[E]? = some (.cells (entryV t0 s0 v') 33 (0, 0)) ∧ w'.ownsRow B 91 2 v' (addL L x).length (pc (addL L x)) ∧ (v'.ownBlock = v.ownBlock ∨ ∃ g, v'.ownBlock = some g ∧ w.heap.size ≤ g) ∧
      Kept w w' (fun k => k = E ∨ some k = v.ownBlock) := by
  obtain ⟨x1, x2⟩ := x
  obtain ⟨i0, hi, hz0, hz1, hz2⟩ := info_parts Yba.info91
  have a5 := adm5 hA
  have e7 := ent7 hE
  have lA := lt_heap hA
  have lG := lt_heap hG
  have lE := lt_heap hE
  have hlk : ∀ o1 o2 nq, (Instr.lookup 39 (.map (some G)) (.agg #[.string t, .int .i64 s]) false).run Yba.prog (((w.alloc o1).alloc o2).drewN nq) = .ok (ptrV E) (((w.alloc o1).alloc o2).drewN nq) := by
    intro o1 o2 nq
    have hG2 : (((w.alloc o1).alloc o2).drewN nq).heap[G]? = some (.map es clock) := by
      rw [World.heap_drewN, Below.heap_alloc _ _ _ (by simp; omega), Below.heap_alloc _ _ _ lG]
      exact hG
    have := lookup39 G es clock ents t s _ hG2 hH
    rw [hl] at this
    exact this
  have HE := hide hE
  have HV := hide hv
  clear hA hG hH hl hE hv
  go_enter Yba.func13, Yba.ntmps13
  go_wp2
  go_quiet (fail)
  go_wp2_with fail
  refine (contains_any B L v x1 (w.heap.size + 1) _ (by omega) (by simp) (own_drewN ((HV.out.alloc _).alloc _) nq)).mono ?_
  rintro e w2 ⟨rfl, hb2⟩
  obtain ⟨hs2, hbw2, hk1, hk2⟩ := after_two hb2
  have he2 : w2.heap[E]? = some (.cells (entryV t0 s0 v) 33 (0, 0)) := (hbw2.block E lE).trans HE.out
  have hv2 : w2.ownsRow B 91 2 v L.length (pc L) := own_keep HV.out (fun k hk => hbw2.block k (HV.out.lt k hk).2)
  have y0 := row_cell hk2 0
  have y1 := row_cell hk2 1
  have z7 := ent7 he2
  have f7 := row_free he2 7
  simp only [List.getElem?_toArray, List.getElem?_cons_zero, List.getElem?_cons_succ] at y0 y1
  have nE : some E ≠ v.ownBlock := own_type hv2 he2 (by decide)
  have nB : some (w.heap.size + 1) ≠ v.ownBlock := own_new HV.out (by omega)
  have HE2 := hide he2
  have HV2 := hide hv2
  clear hb2 hk1 hk2 he2 hv2 a5 e7 hlk HE
  cases hS : hasT L x1
  · go_wp2
    have lB : w.heap.size + 1 < w2.heap.size := by omega
    have lE2 : E < w2.heap.size := by omega
    go_region_law
      ((refine step_append_lies _ (by rfl) _ _ _ (by rfl) B 91 i0 _ 2 32 Yba.underlying27 hi hz0 hz1 hz2 rfl (by omega) v L.length (pc L) (by rfl) ((HV2.out.alloc _).drew)
          ⟨w2.heap.size, 0, none⟩ 1 1 [.string x1, .string x2] (by rfl) (by rfl) (World.news_of_block (cs := #[.string x1, .string x2]) (t := 91) (fr := (0, 0)) (heap_alloc_new w2 _)) (by simp [Value.oneCell'])
          (by omega) (by unfold maxLen; omega) (by omega) (by simp; omega) (w2.heap.size + 1) (by simp) ?_; intro gg cap w3 hown3 hgrow hat hlt3; have he3 := far_row hgrow nE HE2.out; have z3 := ent7 he3; have f3 := row_free he3 7; have HE3 := hide he3; clear he3))
    all_goals
      go_wp2
      go_end0
      obtain ⟨v', r1, r2, r3, r4⟩ := add_end (T := fun _ => False) (Kept.of_below _ hbw2) hS hbw2.size hgrow hown3 hat HE3.out
      exact ⟨rfl, v', r1, r2, r3, ⟨r4.os, r4.tape, r4.output, r4.size, fun k hk hn => r4.block k hk (fun h => h.elim id hn)⟩⟩
  · go_wp2
    go_end0
    have hadd : addL L (x1, x2) = L := by simp [addL, hS]
    exact ⟨rfl, v, HE2.out, by rw [hadd]; exact HV2.out, Or.inl rfl, Kept.of_below _ hbw2⟩

end Go.Proofs.Ybulkacre
