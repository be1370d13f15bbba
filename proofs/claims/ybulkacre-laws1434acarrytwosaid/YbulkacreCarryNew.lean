/-
  '(*admissions).carry' where the breakpoint is new: the first admission makes its entry.
-/
import Derived.Test.YbulkacreCarryOld
import Derived.Laws.StructEq
namespace Go.Proofs.Ybulkacre
open Go.RowKit
open Go.ChangeMaps (setBlock heap_setBlock_same heap_setBlock_other)
attribute [local go_sem ↓] Go.wp_at_zero Go.wp_at_succ

theorem sameK_refl (a : ByteArray) (x : Int) : sameK a a x x = true := by
  unfold sameK
  rw [beq_toListBytes]
  simp

theorem look_snoc {ents : List (ByteArray × Int × Nat)} {t : ByteArray} {s : Int} (h : look ents t s = none) (E : Nat) : look (ents ++ [(t, s, E)]) t s = some E := by
  induction ents with
  | nil => simp [look, sameK_refl]
  | cons e r ih =>
    simp only [look] at h
    split at h
    · cases h
    · rename_i hn
      simp only [List.cons_append, look]
      rw [if_neg hn]
      exact ih h

/-- The state behind the first admissions of a breakpoint that was new in w: one entry more, M its admissions. -/
def NewSt (B A S R G : Nat) (t : ByteArray) (s : Int) (mv : Value) (m : Nat) (mp : List Value) (ents : List (ByteArray × Int × Nat)) (w wr : World) (M : List P2) : Prop :=
  ∃ E mv' es' clock' v, wr.heap[A]? = some (.cells (admV S R G mv') 42 (0, 0)) ∧ wr.heap[G]? = some (.map es' clock') ∧ Holds2 es'.toList (ents ++ [(t, s, E)]) ∧ wr.ownsRow B 26 1 mv' (m + 1) (mp ++ [ptrV E]) ∧
    wr.heap[E]? = some (.cells (entryV t s v) 33 (0, 0)) ∧ wr.ownsRow B 91 2 v M.length (pc M) ∧ w.heap.size ≤ E ∧ (∃ g, v.ownBlock = some g ∧ w.heap.size ≤ g) ∧
    Kept w wr (fun k => k = A ∨ k = G ∨ some k = mv.ownBlock)

theorem own_row_row {w : World} {B B' n n' g c : Nat} {v : Value} {xs xs' : List Value} {e e' : TypeId} {sz sz' : Nat} (h : w.ownsRow B e sz v n xs) (h' : w.ownsRow B' e' sz' (.slice (some ⟨g, 0, none⟩) n' c) n' xs') (hne : e ≠ e') : some g ≠ v.ownBlock := by
  rcases h'.2 with ⟨hn, _⟩ | ⟨g', c', cur, hvv, _, hgg, _⟩
  · cases hn
  · cases hvv
    exact own_type h hgg hne

theorem model_first (ps : List P2) (k : Nat) (h : k < ps.length) (hz : k = 0) : modelL [] (ps.take (k + 1)) = [ps[k]] := by
  subst hz
  rw [model_step [] ps 0 h]
  rfl

/-- The first admission. -/
theorem new_first {B A S R G : Nat} {t : ByteArray} {s : Int} {mv : Value} {m : Nat} {mp : List Value} {ents : List (ByteArray × Int × Nat)} {w w' : World} {o : Obj} {x : P2} {M : List P2} (hM : M = [x])
    (hpost : ∃ E mv' es' clock' v', w'.heap[A]? = some (.cells (admV S R G mv') 42 (0, 0)) ∧ w'.heap[G]? = some (.map es' clock') ∧ Holds2 es'.toList (ents ++ [(t, s, E)]) ∧ w'.ownsRow B 26 1 mv' (m + 1) (mp ++ [ptrV E]) ∧
      w'.heap[E]? = some (.cells (entryV t s v') 33 (0, 0)) ∧ w'.ownsRow B 91 2 v' 1 (pc [x]) ∧ (w.alloc o).drew.heap.size ≤ E ∧ (∃ g, v'.ownBlock = some g ∧ (w.alloc o).drew.heap.size ≤ g) ∧
      Kept (w.alloc o).drew w' (fun k => k = A ∨ k = G ∨ some k = mv.ownBlock)) : NewSt B A S R G t s mv m mp ents w w' M := by
  subst hM
  obtain ⟨E, mv', es', clock', v', h1, h2, h3, h4, h5, h6, h7, ⟨g, hg, hl⟩, h9⟩ := hpost
  have hsz : (w.alloc o).drew.heap.size = w.heap.size + 1 := by simp
  rw [hsz] at h7 hl
  refine ⟨E, mv', es', clock', v', h1, h2, h3, h4, h5, h6, by omega, ⟨g, hg, by omega⟩, ?_⟩
  exact (((Kept.of_below (fun k => k = A ∨ k = G ∨ some k = mv.ownBlock) (Below.refl _ w)).alloc o).drew).trans h9 (fun _ _ h => h) (fun _ _ h => h)

/-- A further admission. -/
theorem new_next {B A S R G E : Nat} {t : ByteArray} {s : Int} {mv mv' : Value} {m : Nat} {mp : List Value} {ents : List (ByteArray × Int × Nat)} {es' : Array MapEntry} {clock' : Nat} {v : Value} {w wr w' : World} {o : Obj} {M M' : List P2}
    (hA : wr.heap[A]? = some (.cells (admV S R G mv') 42 (0, 0))) (hG : wr.heap[G]? = some (.map es' clock')) (hH : Holds2 es'.toList (ents ++ [(t, s, E)])) (hm : wr.ownsRow B 26 1 mv' (m + 1) (mp ++ [ptrV E]))
    (hE : wr.heap[E]? = some (.cells (entryV t s v) 33 (0, 0))) {Mv : List P2} (hv : wr.ownsRow B 91 2 v Mv.length (pc Mv)) (hE2 : w.heap.size ≤ E) (hfr : ∃ g, v.ownBlock = some g ∧ w.heap.size ≤ g) (hk : Kept w wr (fun k => k = A ∨ k = G ∨ some k = mv.ownBlock))
    (hpost : ∃ v', w'.heap[E]? = some (.cells (entryV t s v') 33 (0, 0)) ∧ w'.ownsRow B 91 2 v' M'.length (pc M') ∧ (v'.ownBlock = v.ownBlock ∨ ∃ g, v'.ownBlock = some g ∧ (wr.alloc o).drew.heap.size ≤ g) ∧ Kept (wr.alloc o).drew w' (fun k => k = E ∨ some k = v.ownBlock)) (hM : M = M') :
    NewSt B A S R G t s mv m mp ents w w' M := by
  subst hM
  obtain ⟨v', h1, h2, h3, h4⟩ := hpost
  have kw : Kept wr w' (fun k => k = E ∨ some k = v.ownBlock) := (((Kept.of_below (fun k => k = E ∨ some k = v.ownBlock) (Below.refl _ wr)).alloc o).drew).trans h4 (fun _ _ h => h) (fun _ _ h => h)
  have nAE : A ≠ E := fun e => by rw [e, hE] at hA; cases hA
  have nGE : G ≠ E := fun e => by rw [e, hE] at hG; cases hG
  refine ⟨E, mv', es', clock', v', ?_, ?_, hH, ?_, h1, h2, hE2, ?_, ?_⟩
  · rw [kw.block A (lt_heap hA) (fun h => h.elim nAE (own_type hv hA (by decide)))]; exact hA
  · rw [kw.block G (lt_heap hG) (fun h => h.elim nGE (own_map hv hG))]; exact hG
  · refine own_keep hm (fun j hj => kw.block j (hm.lt j hj).2 (fun h => ?_))
    rcases h with h | h
    · exact own_type hm hE (by decide) (by rw [hj, h])
    · obtain ⟨gv, cv, cur, hvg⟩ : ∃ gv cv cur, v.ownBlock = some gv ∧ wr.heap[gv]? = some (.cells cur 91 (0, 0)) ∧ cv = cv := by
        obtain ⟨g, hg, _⟩ := hfr
        rcases hv.2 with ⟨hn, _⟩ | ⟨g', c', cur, hvv, _, hgg, _⟩
        · rw [hn] at hg; cases hg
        · exact ⟨g', 0, cur, by rw [hvv]; rfl, hgg, rfl⟩
      exact own_type hm hvg.2.1 (by decide) (by rw [hj, h, hvg.1])
  · obtain ⟨g, hg, hl⟩ := hfr
    rcases h3 with h | ⟨g', hg', hl'⟩
    · exact ⟨g, by rw [h]; exact hg, hl⟩
    · have := hk.size
      simp at hl'
      exact ⟨g', hg', by omega⟩
  · refine hk.trans kw (fun _ _ h => h) (fun i hi h => ?_)
    rcases h with h | h
    · omega
    · obtain ⟨g, hg, hl⟩ := hfr
      rw [hg] at h
      simp only [Option.some.injEq] at h
      omega

set_option maxHeartbeats 2000000 in
set_option maxRecDepth 100000 in
theorem carry_new (B A S R G Q : Nat) (mv : Value) (m : Nat) (mp : List Value) (es : Array MapEntry) (clock : Nat) (ents : List (ByteArray × Int × Nat)) (t : ByteArray) (s : Int) (cg cc Bc : Nat) (ps : List P2) (w : World)
    (hA : w.heap[A]? = some (.cells (admV S R G mv) 42 (0, 0))) (hG : w.heap[G]? = some (.map es clock)) (hH : Holds2 es.toList ents) (hl : look ents t s = none)
    (hm : w.ownsRow B 26 1 mv m mp) (hBw : B ≤ w.heap.size) (hm2 : m ≤ 2)
    (hQ : w.heap[Q]? = some (.cells (entryV t s (.slice (some ⟨cg, 0, none⟩) ps.length cc)) 33 (0, 0))) (hc : w.ownsRow Bc 91 2 (.slice (some ⟨cg, 0, none⟩) ps.length cc) ps.length (pc ps)) (hps : ps.length ≤ 1024) (hpos : 0 < ps.length) :
    Calls Yba.prog 7 #[ptrV A, ptrV Q] w fun e w' => e = .returned (.tuple #[]) ∧ NewSt B A S R G t s mv m mp ents w w' (modelL [] ps) := by
  obtain ⟨n, hn⟩ : ∃ n, n = ps.length := ⟨_, rfl⟩
  have q7 := ent7 hQ
  rw [← hn] at q7
  have HN := hide hn
  have hn1 : n ≤ 1024 := by omega
  have HF := hide (And.intro hA (And.intro hG (And.intro hH (And.intro hl (And.intro hm (And.intro hQ hc))))))
  clear hn hps hA hG hH hl hm hQ hc
  go_enter Yba.func7, Yba.ntmps7
  go_wp2
  go_loopg [11] n (fun r i wr => ∃ k : Nat, k + r = n ∧ i = .int .i64 k ∧ ((k = 0 ∧ wr = w) ∨ (0 < k ∧ NewSt B A S R G t s mv m mp ents w wr (modelL [] (ps.take k)))))
  case atStart => exact ⟨0, by omega, rfl, Or.inl ⟨rfl, rfl⟩⟩
  case round =>
    obtain ⟨k, hk, rfl, hst⟩ := hrel
    obtain ⟨hA, hG, hH, hl, hm, hQ, hc⟩ := HF.out
    have hk0 : (0 : Int) ≤ (k : Int) := by omega
    by_cases hlt : k < n
    · have hkp : k < ps.length := by have := HN.out; omega
      have hk1 : (k : Int) < (n : Int) := by omega
      rcases hst with ⟨hkz, hwr⟩ | ⟨hkp0, E, mv', es', clock', v, hAr, hGr, hHr, hmr, hEr, hvr, hEl, hfr, hkr⟩
      · subst hwr
        have c0 := own_cell0 hc k hkp
        have c1 := own_cell1 hc k hkp
        have q2 := ent2 hQ
        have q5 := ent5 hQ
        have lQ := lt_heap hQ
        have hP := add_new B A S R G mv m mp es clock ents t s (ps[k]) (wr.alloc (.cells #[.string (ps[k]).1, .string (ps[k]).2] 91)).drew
          ((Below.heap_alloc wr _ A (lt_heap hA)).trans hA) ((Below.heap_alloc wr _ G (lt_heap hG)).trans hG) hH hl (hm.alloc _).drew (by simp; omega) hm2
        have HK := hide hkz
        clear hA hG hH hl hm hQ hc hkz
        go_wp2
        go_region_with (go_at_call 13; refine hP.mono ?_; rintro e w' ⟨rfl, hpost⟩)
        all_goals
          go_wp2
          go_roundg (n - (k + 1))
          case measure => omega
          case rel => exact ⟨k + 1, by omega, by go_num, Or.inr ⟨by omega, new_first (model_first ps k hkp HK.out) hpost⟩⟩
      · have stay : ∀ b, b < w.heap.size → b ≠ A → b ≠ G → some b ≠ mv.ownBlock → wr.heap[b]? = w.heap[b]? := fun b hb h1 h2 h3 => hkr.block b hb (fun h => h.elim h1 (fun h => h.elim h2 h3))
        have nQA : Q ≠ A := fun e => by rw [e, hA] at hQ; cases hQ
        have nQG : Q ≠ G := fun e => by rw [e, hG] at hQ; cases hQ
        have ngA : cg ≠ A := fun e => own_type hc hA (by decide) (by rw [← e]; rfl)
        have ngG : cg ≠ G := fun e => own_map hc hG (by rw [← e]; rfl)
        have ngm : some cg ≠ mv.ownBlock := own_row_row hm hc (by decide)
        have hQr := (stay Q (lt_heap hQ) nQA nQG (own_type hm hQ (by decide))).trans hQ
        have hcr : wr.ownsRow Bc 91 2 (.slice (some ⟨cg, 0, none⟩) ps.length cc) ps.length (pc ps) := own_keep hc (fun j hj => by cases hj; exact stay cg (hc.lt cg rfl).2 ngA ngG ngm)
        have c0 := own_cell0 hcr k hkp
        have c1 := own_cell1 hcr k hkp
        have q2 := ent2 hQr
        have q5 := ent5 hQr
        have lQ := lt_heap hQr
        have hML : (modelL [] (ps.take k)).length ≤ 2048 := by
          have h1 := (modelL_len (ps.take k) []).2
          have h2 : (ps.take k).length ≤ k := List.length_take_le _ _
          simp only [List.length_nil] at h1
          omega
        have hP := add_old B A S R G E mv' es' clock' (ents ++ [(t, s, E)]) t s (ps[k]) t s v (modelL [] (ps.take k)) (wr.alloc (.cells #[.string (ps[k]).1, .string (ps[k]).2] 91)).drew
          ((Below.heap_alloc wr _ A (lt_heap hAr)).trans hAr) ((Below.heap_alloc wr _ G (lt_heap hGr)).trans hGr) hHr (look_snoc hl E) ((Below.heap_alloc wr _ E (lt_heap hEr)).trans hEr) (hvr.alloc _).drew (by have := hkr.size; simp; omega) hML
        have HX := hide (And.intro hAr (And.intro hGr (And.intro hHr (And.intro hmr (And.intro hEr (And.intro hvr (And.intro hEl (And.intro hfr hkr))))))))
        clear stay hAr hGr hHr hmr hEr hvr hEl hfr hkr hA hG hH hl hm hQ hc hQr hcr ngm
        go_wp2
        go_region_with (go_at_call 13; refine hP.mono ?_; rintro e w' ⟨rfl, hpost⟩)
        all_goals
          go_wp2
          go_roundg (n - (k + 1))
          case measure => omega
          case rel => exact ⟨k + 1, by omega, by go_num, Or.inr ⟨by omega, new_next HX.out.1 HX.out.2.1 HX.out.2.2.1 HX.out.2.2.2.1 HX.out.2.2.2.2.1 HX.out.2.2.2.2.2.1 HX.out.2.2.2.2.2.2.1 HX.out.2.2.2.2.2.2.2.1 HX.out.2.2.2.2.2.2.2.2 hpost (model_step [] ps k hkp)⟩⟩
    · obtain rfl : k = n := by omega
      have hfin : NewSt B A S R G t s mv m mp ents w wr (modelL [] ps) := by
        rcases hst with ⟨hkz, _⟩ | ⟨_, hst⟩
        · have := HN.out
          omega
        · have e : ps.take k = ps := List.take_of_length_le (by have := HN.out; omega)
          rw [e] at hst
          exact hst
      have HX := hide hfin
      clear hfin hst hA hG hH hl hm hQ hc
      go_wp2
      go_end0
      exact ⟨rfl, HX.out⟩

end Go.Proofs.Ybulkacre
