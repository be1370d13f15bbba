/-
  '(*admissions).add' where the breakpoint is new.
-/
import Derived.Test.YbulkacreAddOld
namespace Go.Proofs.Ybulkacre
open Go.RowKit
open Go.ChangeMaps (setBlock heap_setBlock_same heap_setBlock_other)
attribute [local go_sem ↓] Go.wp_at_zero Go.wp_at_succ

theorem Yba.info26 : (Yba.prog.info? 26).map (fun i => (i.zero, i.size, i.bytes)) = some (some (.pointer none), 1, 8) := by kernel_rfl

theorem far_row1 {w2 w3 : World} {o : Obj} {row : Option Nat} {E : Nat} {c : Obj} (hg : (w2.alloc o).grownBy w3 row) (hE : some E ≠ row) (h : w2.heap[E]? = some c) : w3.heap[E]? = some c := by
  have hl := lt_heap h
  have hl2 : E < (w2.alloc o).heap.size := by simp; omega
  rw [hg.block E hl2 hE, Below.heap_alloc w2 o E hl]
  exact h

/-- Behind the map's store: the two boxes and the entry lie there; of w's blocks the map's alone has turned. -/
structure Mid (w wc : World) (G : Nat) (es' : Array MapEntry) (clock' : Nat) (o1 o2 o3 : Obj) : Prop where
  map : wc.heap[G]? = some (.map es' clock')
  box1 : wc.heap[w.heap.size]? = some o1
  box2 : wc.heap[w.heap.size + 1]? = some o2
  entry : wc.heap[w.heap.size + 1 + 1]? = some o3
  size : w.heap.size + 3 ≤ wc.heap.size
  kept : Kept w wc (fun k => k = G)

theorem three (w : World) (o1 o2 o3 : Obj) (q : Nat) : ((((w.alloc o1).alloc o2).drewN q).alloc o3).drew.heap[w.heap.size]? = some o1 ∧ ((((w.alloc o1).alloc o2).drewN q).alloc o3).drew.heap[w.heap.size + 1]? = some o2 ∧
    ((((w.alloc o1).alloc o2).drewN q).alloc o3).drew.heap[w.heap.size + 1 + 1]? = some o3 ∧ ((((w.alloc o1).alloc o2).drewN q).alloc o3).drew.heap.size = w.heap.size + 3 ∧ Below w.heap.size w ((((w.alloc o1).alloc o2).drewN q).alloc o3).drew := by
  refine ⟨?_, ?_, ?_, by simp, ?_⟩
  · show (((w.heap.push o1).push o2).push o3)[_]? = _
    simp only [Array.getElem?_push, Array.size_push]
    rw [if_neg (by omega), if_neg (by omega), if_pos (by first | trivial | omega)]
  · show (((w.heap.push o1).push o2).push o3)[_]? = _
    simp only [Array.getElem?_push, Array.size_push]
    rw [if_neg (by omega), if_pos (by first | trivial | omega)]
  · show (((w.heap.push o1).push o2).push o3)[_]? = _
    simp only [Array.getElem?_push, Array.size_push]
    rw [if_pos (by first | trivial | omega)]
  · exact ((below_drewN (((Below.refl _ w).alloc (by simp) _).alloc (by simp) _) q).alloc (by simp; omega) _).drew

theorem mid_of {w : World} {G clock : Nat} {es : Array MapEntry} (o1 o2 o3 : Obj) (q : Nat) (hG : w.heap[G]? = some (.map es clock)) (es' : Array MapEntry) (clock' : Nat) :
    Mid w (setBlock ((((w.alloc o1).alloc o2).drewN q).alloc o3).drew G (.map es' clock')) G es' clock' o1 o2 o3 := by
  obtain ⟨h1, h2, h3, hs, hb⟩ := three w o1 o2 o3 q
  have lG := lt_heap hG
  have hG' : ((((w.alloc o1).alloc o2).drewN q).alloc o3).drew.heap[G]? = some (.map es clock) := (hb.block G lG).trans hG
  refine ⟨heap_setBlock_same hG' _, ?_, ?_, ?_, ?_, ⟨hb.os, hb.tape, hb.output, ?_, fun k hk hn => ?_⟩⟩
  · rw [heap_setBlock_other hG' _ (by omega)]; exact h1
  · rw [heap_setBlock_other hG' _ (by omega)]; exact h2
  · rw [heap_setBlock_other hG' _ (by omega)]; exact h3
  · simp only [setBlock, Array.size_setIfInBounds]; omega
  · simp only [setBlock, Array.size_setIfInBounds]; omega
  · rw [heap_setBlock_other hG' _ hn]; exact hb.block k hk

/-- Behind the new entry's being listed among those made. -/
structure Mid2 (B A S R G m : Nat) (mv mv' : Value) (mp' : List Value) (w wc : World) (es' : Array MapEntry) (clock' : Nat) (o2 o3 : Obj) : Prop where
  adm : wc.heap[A]? = some (.cells (admV S R G mv') 42 (0, 0))
  map : wc.heap[G]? = some (.map es' clock')
  made : wc.ownsRow B 26 1 mv' (m + 1) mp'
  box2 : wc.heap[w.heap.size + 1]? = some o2
  entry : wc.heap[w.heap.size + 1 + 1]? = some o3
  size : w.heap.size + 3 ≤ wc.heap.size
  kept : Kept w wc (fun k => k = A ∨ k = G ∨ some k = mv.ownBlock)

theorem mid2_of {B A S R G m g cap : Nat} {mv : Value} {mp mp' : List Value} {w w1 w2 : World} {es' : Array MapEntry} {clock' : Nat} {o o1 : Obj} {c2 c3 : Array Value} {t2 t3 : TypeId} (h : Mid w w1 G es' clock' o1 (.cells c2 t2) (.cells c3 t3)) (hA2 : w2.heap[A]? = some (.cells (admV S R G mv) 42 (0, 0))) (hAG : A ≠ G) (hg : (w1.alloc o).grownBy w2 mv.ownBlock)
    (hown : w2.ownsRow B 26 1 (.slice (some ⟨g, 0, none⟩) (m + 1) cap) (m + 1) mp') (hm : w1.ownsRow B 26 1 mv m mp) (ht2 : (26 : TypeId) ≠ t2 := by decide) (ht3 : (26 : TypeId) ≠ t3 := by decide) (hA3 : A < w.heap.size := by assumption) :
    Mid2 B A S R G m mv (.slice (some ⟨g, 0, none⟩) (m + 1) cap) mp' w (w2.setCell ⟨A, 6, none⟩ (.slice (some ⟨g, 0, none⟩) (m + 1) cap)) es' clock' (.cells c2 t2) (.cells c3 t3) := by
  have hs := h.size
  have other : ∀ k, k ≠ A → (w2.setCell ⟨A, 6, none⟩ (.slice (some ⟨g, 0, none⟩) (m + 1) cap)).heap[k]? = w2.heap[k]? := fun k hk => Below.heap_setCell _ _ _ _ hk
  refine ⟨heap_setCell_row hA2 6 _, ?_, ?_, ?_, ?_, ?_, ?_⟩
  · rw [other G (Ne.symm hAG)]; exact far_row1 hg (own_map hm h.map) h.map
  · exact own_keep hown (fun k hk => other k (fun e => own_type hown hA2 (by decide) (by rw [hk, e])))
  · rw [other _ (by omega)]; exact far_row1 hg (own_type hm h.box2 ht2) h.box2
  · rw [other _ (by omega)]; exact far_row1 hg (own_type hm h.entry ht3) h.entry
  · have := hg.size
    simp [World.setCell] at this ⊢
    omega
  · have k1 : Kept w w1 (fun k => k = A ∨ k = G ∨ some k = mv.ownBlock) := ⟨h.kept.os, h.kept.tape, h.kept.output, h.kept.size, fun k hk hn => h.kept.block k hk (fun e => hn (Or.inr (Or.inl e)))⟩
    exact ((k1.alloc o).grown hg (fun i hi _ => Or.inr (Or.inr hi))).setCell _ (fun i hi _ => Or.inl hi)

theorem new_end {B A S R G m : Nat} {mv mv' : Value} {mp : List Value} {w w2 wf : World} {es es' : Array MapEntry} {clock clock' : Nat} {ents : List (ByteArray × Int × Nat)} {t : ByteArray} {s : Int} {x : P2} {v' : Value} {o2 : Obj}
    (h : Mid2 B A S R G m mv mv' (mp ++ [ptrV (w.heap.size + 1 + 1)]) w w2 es' clock' o2 (.cells (entryV t s (.slice none 0 0)) 33)) (hA : A < w.heap.size) (hG : w.heap[G]? = some (.map es clock)) (hH : Holds2 es'.toList (ents ++ [(t, s, w.heap.size + 1 + 1)]))
    (r1 : wf.heap[w.heap.size + 1 + 1]? = some (.cells (entryV t s v') 33 (0, 0))) (r2 : wf.ownsRow B 91 2 v' (addL [] x).length (pc (addL [] x))) (r3 : v'.ownBlock = (Value.slice none 0 0).ownBlock ∨ ∃ g, v'.ownBlock = some g ∧ w2.heap.size ≤ g)
    (r4 : Kept w2 wf (fun k => False ∨ k = w.heap.size + 1 + 1 ∨ some k = (Value.slice none 0 0).ownBlock)) :
    ∃ E mv' es' clock' v', wf.heap[A]? = some (.cells (admV S R G mv') 42 (0, 0)) ∧ wf.heap[G]? = some (.map es' clock') ∧ Holds2 es'.toList (ents ++ [(t, s, E)]) ∧ wf.ownsRow B 26 1 mv' (m + 1) (mp ++ [ptrV E]) ∧
      wf.heap[E]? = some (.cells (entryV t s v') 33 (0, 0)) ∧ wf.ownsRow B 91 2 v' 1 (pc [x]) ∧ w.heap.size ≤ E ∧ (∃ g, v'.ownBlock = some g ∧ w.heap.size ≤ g) ∧
      Kept w wf (fun k => k = A ∨ k = G ∨ some k = mv.ownBlock) := by
  have lG := lt_heap hG
  have hs := h.size
  have stay : ∀ k, k < w2.heap.size → k ≠ w.heap.size + 1 + 1 → wf.heap[k]? = w2.heap[k]? := fun k hk hn => r4.block k hk (by rintro (hf | he | he); exact hf; exact hn he; cases he)
  have hadd : addL [] x = [x] := rfl
  refine ⟨_, mv', es', clock', v', (stay A (by omega) (by omega)).trans h.adm, (stay G (by omega) (by omega)).trans h.map, hH, ?_, r1, by rw [hadd] at r2; exact r2, by omega, ?_, ?_⟩
  · exact own_keep h.made (fun k hk => stay k (h.made.lt k hk).2 (fun e => own_type h.made h.entry (by decide) (by rw [hk, e])))
  · rcases r3 with h3 | ⟨g, hg, hl⟩
    · obtain ⟨g, c, hv, _⟩ := r2.form (by rw [hadd]; exact Nat.one_pos)
      rw [hv] at h3
      cases h3
    · exact ⟨g, hg, by omega⟩
  · exact h.kept.trans r4 (fun _ _ ht => ht) (fun k hk ht => by rcases ht with hf | he | he; exact hf.elim; omega; cases he)

set_option maxHeartbeats 2000000 in
set_option maxRecDepth 100000 in
theorem add_new (B A S R G : Nat) (mv : Value) (m : Nat) (mp : List Value) (es : Array MapEntry) (clock : Nat) (ents : List (ByteArray × Int × Nat)) (t : ByteArray) (s : Int) (x : P2) (w : World)
    (hA : w.heap[A]? = some (.cells (admV S R G mv) 42 (0, 0))) (hG : w.heap[G]? = some (.map es clock)) (hH : Holds2 es.toList ents) (hl : look ents t s = none)
    (hm : w.ownsRow B 26 1 mv m mp) (hBw : B ≤ w.heap.size) (hm2 : m ≤ 2) :
    Calls Yba.prog 13 #[ptrV A, keyV t s, .agg #[.string x.1, .string x.2]] w fun e w' => e = .returned (.tuple #[]) ∧ ∃ E mv' es' clock' v',
      w'.heap[A]? = some (.cells (admV S R G mv') 42 (0, 0)) ∧ w'.heap[G]? = some (.map es' clock') ∧ Holds2 es'.toList (ents ++ [(t, s, E)]) ∧ w'.ownsRow B 26 1 mv' (m + 1) (mp ++ [ptrV E]) ∧
      w'.heap[E]? = some (.cells (entryV t s v') 33 (0, 0)) ∧ w'.ownsRow B 91 2 v' 1 (pc [x]) ∧ w.heap.size ≤ E ∧ (∃ g, v'.ownBlock = some g ∧ w.heap.size ≤ g) ∧
      Kept w w' (fun k => k = A ∨ k = G ∨ some k = mv.ownBlock) := by
  obtain ⟨x1, x2⟩ := x
  obtain ⟨i0, hi, hz0, hz1, hz2⟩ := info_parts Yba.info91
  obtain ⟨j0, hj, hy0, hy1, hy2⟩ := info_parts Yba.info26
  have a5 := adm5 hA
  have lA := lt_heap hA
  have lG := lt_heap hG
  have hlk : ∀ o1 o2 nq, (Instr.lookup 39 (.map (some G)) (.agg #[.string t, .int .i64 s]) false).run Yba.prog (((w.alloc o1).alloc o2).drewN nq) = .ok (.pointer none) (((w.alloc o1).alloc o2).drewN nq) := by
    intro o1 o2 nq
    have hG2 : (((w.alloc o1).alloc o2).drewN nq).heap[G]? = some (.map es clock) := by
      rw [World.heap_drewN, Below.heap_alloc _ _ _ (by simp; omega), Below.heap_alloc _ _ _ lG]
      exact hG
    have := lookup39 G es clock ents t s _ hG2 hH
    rw [hl] at this
    exact this
  have hup : ∀ o1 o2 o3 q, (Instr.mapUpdate 39 (.map (some G)) (.agg #[.string t, .int .i64 s]) (.pointer (some ⟨w.heap.size + 1 + 1, 0, none⟩))).run Yba.prog ((((w.alloc o1).alloc o2).drewN q).alloc o3).drew = .ok () (setBlock ((((w.alloc o1).alloc o2).drewN q).alloc o3).drew G (.map (es.push { key := keyV t s, val := ptrV (w.heap.size + 1 + 1), born := clock }) (clock + 1))) := by
    intro o1 o2 o3 q
    exact update39 G es clock ents t s (w.heap.size + 1 + 1) _ (((three w o1 o2 o3 q).2.2.2.2.block G lG).trans hG) hH hl
  have qa : ∀ o1 o2 o3 q, ((((w.alloc o1).alloc o2).drewN q).alloc o3).cell? ⟨A, 5, none⟩ = some (.map (some G)) := by
    intro o1 o2 o3 q
    exact adm5 (((three w o1 o2 o3 q).2.2.2.2.block A lA).trans hA)
  have q0 : ∀ o2 o3 q, ((((w.alloc (.cells #[.string t, .int .i64 s] 44)).alloc o2).drewN q).alloc o3).cell? ⟨w.heap.size, 0, none⟩ = some (.string t) := by
    intro o2 o3 q
    have := row_cell (w := ((((w.alloc (.cells #[.string t, .int .i64 s] 44)).alloc o2).drewN q).alloc o3)) (three w _ o2 o3 q).1 0
    rw [this]; rfl
  have q1 : ∀ o2 o3 q, ((((w.alloc (.cells #[.string t, .int .i64 s] 44)).alloc o2).drewN q).alloc o3).cell? ⟨w.heap.size, 1, none⟩ = some (.int .i64 s) := by
    intro o2 o3 q
    have := row_cell (w := ((((w.alloc (.cells #[.string t, .int .i64 s] 44)).alloc o2).drewN q).alloc o3)) (three w _ o2 o3 q).1 1
    rw [this]; rfl
  have HA := hide hA
  have HG := hide hG
  have HM := hide hm
  have HH := hide hH
  clear hA hG hH hl hm
  go_enter Yba.func13, Yba.ntmps13
  go_wp2
  go_quiet (fail)
  go_upto_region 4 with fail
  go_cut [] (fun wc => Mid w wc G (es.push { key := keyV t s, val := ptrV (w.heap.size + 1 + 1), born := clock }) (clock + 1) (.cells #[.string t, .int .i64 s] 44) (.cells #[.string x1, .string x2] 91) (.cells (entryV t s (.slice none 0 0)) 33))
  case first =>
    go_region
    go_wp2
    go_meet
    case rel => exact mid_of _ _ _ nq HG.out _ _
  obtain ⟨w1, rfl⟩ : ∃ w1 : World, w1 = wc := ⟨_, rfl⟩
  have nAG : A ≠ G := fun e => by have h1 := HA.out; have h2 := HG.out; rw [e, h2] at h1; cases h1
  have ha1 : w1.heap[A]? = some (.cells (admV S R G mv) 42 (0, 0)) := (hcut.kept.block A lA nAG).trans HA.out
  have hm1 : w1.ownsRow B 26 1 mv m mp := own_keep HM.out (fun k hk => hcut.kept.block k (HM.out.lt k hk).2 (fun e => own_map HM.out HG.out (by rw [hk, e])))
  have nA : some A ≠ mv.ownBlock := own_type hm1 ha1 (by decide)
  have a6 := adm6 ha1
  have lA1 := lt_heap ha1
  have hsz1 := hcut.size
  have HC := hide hcut
  have HA1 := hide ha1
  have HM1 := hide hm1
  clear hcut ha1 hm1 a5 hlk hup qa q0 q1
  go_upto_region 5 with fail
  go_cut [] (fun wc => ∃ mv', Mid2 B A S R G m mv mv' (mp ++ [ptrV (w.heap.size + 1 + 1)]) w wc (es.push { key := keyV t s, val := ptrV (w.heap.size + 1 + 1), born := clock }) (clock + 1) (.cells #[.string x1, .string x2] 91) (.cells (entryV t s (.slice none 0 0)) 33))
  case first =>
    go_wp2_with (at_builtin; refine wpList_append_lies _ (by rfl) (.tmp 32) (.tmp 34) 40 (by rfl) B 26 j0 (.pointer none) 1 8 Yba.underlying40 hj hy0 hy1 hy2 rfl (by decide) mv m mp (by rfl) (HM1.out.alloc _) ⟨w1.heap.size, 0, none⟩ 1 1 [ptrV (w.heap.size + 1 + 1)] (by rfl) (by rfl) (World.news_of_block (cs := #[ptrV (w.heap.size + 1 + 1)]) (t := 26) (fr := (0, 0)) (heap_alloc_new w1 _)) (by simp [Value.oneCell']) (by omega) (by unfold maxLen; omega) (by omega) (by simp; omega) (w1.heap.size + 1) (by simp) ?_; intro g cap w2 hown2 hgrow2 hat2 hlt2; have ha2 := far_row1 hgrow2 nA HA1.out; have z6 := adm6 ha2; have f6 := row_free ha2 6; have HA2 := hide ha2; clear ha2)
    go_meet
    case rel => exact ⟨_, mid2_of HC.out HA2.out nAG hgrow2 hown2 HM1.out⟩
  obtain ⟨mv', hmid⟩ := hcut
  obtain ⟨w2, rfl⟩ : ∃ w2 : World, w2 = wc := ⟨_, rfl⟩
  have e7 := ent7 hmid.entry
  have y0 := row_cell hmid.box2 0
  have y1 := row_cell hmid.box2 1
  simp only [List.getElem?_toArray, List.getElem?_cons_zero, List.getElem?_cons_succ] at y0 y1
  have lB2 := lt_heap hmid.box2
  have lE2 := lt_heap hmid.entry
  have HMID := hide hmid
  have hBw2 : B ≤ w2.heap.size := by have := hmid.size; omega
  clear hmid HC HA1 HM1 a6 nA
  go_wp2_with fail
  refine (contains_any B [] (.slice none 0 0) x1 (w.heap.size + 1) w2 (by decide) y0 (World.ownsRow_nil _ _ _ _)).mono ?_
  rintro e w3 ⟨rfl, hb3⟩
  have he3 := (hb3.block _ lE2).trans HMID.out.entry
  have hk3 := (hb3.block _ lB2).trans HMID.out.box2
  have z7 := ent7 he3
  have f7 := row_free he3 7
  rw [← hb3.cell (by exact lB2)] at y0 y1
  have nE : some (w.heap.size + 1 + 1) ≠ (Value.slice none 0 0).ownBlock := by simp [Value.ownBlock]
  have lB3 := lt_heap hk3
  have lE3 := lt_heap he3
  have hs3 := hb3.size
  have HE3 := hide he3
  have HB3 := hide hb3
  have hS : hasT [] x1 = false := rfl
  clear he3 hk3 hb3 e7
  go_wp2
  go_region_law
    ((refine step_append_lies _ (by rfl) _ _ _ (by rfl) B 91 i0 _ 2 32 Yba.underlying27 hi hz0 hz1 hz2 rfl (by omega) (.slice none 0 0) 0 [] (by rfl) (World.ownsRow_nil _ _ _ _)
        ⟨w3.heap.size, 0, none⟩ 1 1 [.string x1, .string x2] (by rfl) (by rfl) (World.news_of_block (cs := #[.string x1, .string x2]) (t := 91) (fr := (0, 0)) (heap_alloc_new w3 _)) (by simp [Value.oneCell'])
        (by omega) (by unfold maxLen; omega) (by omega) (by simp; omega) (w3.heap.size + 1) (by simp) ?_; intro gg cap w4 hown4 hgrow hat hlt4; have he4 := far_row hgrow nE HE3.out; have z4 := ent7 he4; have f4 := row_free he4 7; have HE4 := hide he4; clear he4))
  all_goals
    go_wp2
    go_end0
    obtain ⟨v', r1, r2, r3, r4⟩ := add_end (L := []) (v := .slice none 0 0) (T := fun _ => False) (Kept.of_below _ HB3.out) hS HB3.out.size hgrow hown4 hat HE4.out
    exact ⟨rfl, new_end HMID.out lA HG.out (holds2_push HH.out t s (w.heap.size + 1 + 1) clock) r1 r2 r3 r4⟩

end Go.Proofs.Ybulkacre
