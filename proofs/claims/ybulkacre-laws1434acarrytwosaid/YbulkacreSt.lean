/-
  The admissions as a list of entries; 'conv', 'model' and 'carry' over it.
-/
import Derived.Test.YbulkacreOneWalk
namespace Go.Proofs.Ybulkacre
open Go.RowKit

/-- A slice of pairs that came in, empty or at an address below B. -/
def In (B : Nat) (w : World) (a : Option Addr) (len : Nat) (ps : List P2) : Prop := ps.length = len ∧ (ps = [] ∨ ∃ b off, a = some ⟨b, off, none⟩ ∧ Pairs B w b off ps)

theorem In.below {B : Nat} {w w' : World} {a : Option Addr} {len : Nat} {ps : List P2} (h : In B w a len ps) (hb : Below B w w') : In B w' a len ps := by
  obtain ⟨h1, h2⟩ := h
  refine ⟨h1, ?_⟩
  rcases h2 with h2 | ⟨b, off, ha, hp⟩
  · exact Or.inl h2
  · exact Or.inr ⟨b, off, ha, hp.of_below hb hp.below hp.below⟩

theorem conv_any {B : Nat} {a : Option Addr} {len cap : Nat} {ps : List P2} {w : World} (h : In B w a len ps) (hB : B ≤ w.heap.size) (hl : len ≤ 1024) :
    Calls Yba.prog 8 #[.slice a len cap] w fun e w' => ∃ ao c, e = .returned (.slice ao len c) ∧ w'.ownsRow w.heap.size 91 2 (.slice ao len c) ps.length (pc ps) ∧ Below w.heap.size w w' := by
  obtain ⟨rfl, h⟩ := h
  rcases h with rfl | ⟨b, off, rfl, hp⟩
  · refine (conv_zero a cap w).mono ?_
    rintro e w' ⟨v, rfl, ho, hb⟩
    obtain ⟨ao, c, rfl⟩ := own_shape ho
    exact ⟨ao, c, rfl, ho, hb⟩
  · have hb := hp.below
    refine (conv_some b off cap ps w ⟨by omega, hp.cell0, hp.cell1⟩ hl).mono ?_
    rintro e w' ⟨v, rfl, ho, hb⟩
    obtain ⟨ao, c, rfl⟩ := own_shape ho
    exact ⟨ao, c, rfl, ho, hb⟩

theorem model_any {B B' : Nat} {sv : Value} {l : List P2} {a : Option Addr} {len cap : Nat} {ps : List P2} {w : World} (hown : w.ownsRow B 91 2 sv l.length (pc l)) (h : In B' w a len ps) (hBB : B' ≤ B) (hBw : B ≤ w.heap.size) (hl : len ≤ 1024) (hll : l.length ≤ 1024) :
    Calls Yba.prog 9 #[sv, .slice a len cap] w fun e w' => ∃ ao c, e = .returned (.slice ao (modelL l ps).length c) ∧ w'.ownsRow B 91 2 (.slice ao (modelL l ps).length c) (modelL l ps).length (pc (modelL l ps)) ∧ Below B w w' := by
  obtain ⟨rfl, h⟩ := h
  rcases h with rfl | ⟨b, off, rfl, hp⟩
  · exact model_zero B sv l a cap w hown
  · have hb := hp.below
    exact model_some B sv l b off cap ps w hown hBw ⟨by omega, hp.cell0, hp.cell1⟩ hl hll

/-- An entry: its breakpoint, its block, its admissions. -/
structure Ent where
  t : ByteArray
  s : Int
  E : Nat
  L : List P2

def EntOk (B : Nat) (w : World) (e : Ent) : Prop := B ≤ e.E ∧ ∃ v, w.heap[e.E]? = some (.cells (entryV e.t e.s v) 33 (0, 0)) ∧ w.ownsRow B 91 2 v e.L.length (pc e.L)

def keyOf (e : Ent) : ByteArray × Int × Nat := (e.t, e.s, e.E)

/-- The admissions at A hold these entries, in this order. -/
def St (B : Nat) (w : World) (A S R G : Nat) (es : List Ent) : Prop :=
  B ≤ A ∧ B ≤ G ∧ ∃ mv mes clock, w.heap[A]? = some (.cells (admV S R G mv) 42 (0, 0)) ∧ w.heap[G]? = some (.map mes clock) ∧ Holds2 mes.toList (es.map keyOf) ∧
    w.ownsRow B 26 1 mv es.length (es.map fun e => ptrV e.E) ∧ ∀ e ∈ es, EntOk B w e

theorem EntOk.keep {B : Nat} {w w' : World} {e : Ent} (h : EntOk B w e) (hk : ∀ (k : Nat) (c : Array Value) (t : TypeId), w.heap[k]? = some (Obj.cells c t (0, 0)) → (t = 33 ∨ t = 91) → w'.heap[k]? = w.heap[k]?) : EntOk B w' e := by
  obtain ⟨h0, v, h1, h2⟩ := h
  refine ⟨h0, v, ?_, ?_⟩
  · rw [hk _ _ _ h1 (Or.inl rfl)]; exact h1
  · refine own_keep h2 (fun k hk' => ?_)
    rcases h2.2 with ⟨hn, _⟩ | ⟨g, c, cur, hv, _, hg, _⟩
    · rw [hn] at hk'; cases hk'
    · rw [hv] at hk'
      cases hk'
      exact hk _ _ _ hg (Or.inr rfl)

theorem St.below {B : Nat} {w w' : World} {A S R G : Nat} {es : List Ent} (h : St B w A S R G es) (hb : Below w.heap.size w w') : St B w' A S R G es := by
  obtain ⟨h1, h2, mv, mes, clock, hA, hG, hH, hm, he⟩ := h
  refine ⟨h1, h2, mv, mes, clock, (hb.block A (lt_heap hA)).trans hA, (hb.block G (lt_heap hG)).trans hG, hH, own_keep hm (fun k hk => hb.block k (hm.lt k hk).2), fun e h => (he e h).keep (fun k _ _ hk _ => hb.block k (lt_heap hk))⟩

/-- What a carry makes of the entries. -/
def Nxt (es : List Ent) (t : ByteArray) (s : Int) (ps : List P2) (es' : List Ent) : Prop :=
  (ps = [] ∧ es' = es) ∨ (ps ≠ [] ∧ look (es.map keyOf) t s = none ∧ ∃ E, es' = es ++ [⟨t, s, E, modelL [] ps⟩]) ∨
  (ps ≠ [] ∧ ∃ e, es = [e] ∧ look (es.map keyOf) t s = some e.E ∧ es' = [⟨e.t, e.s, e.E, modelL e.L ps⟩])

theorem st_new {B : Nat} {w w' : World} {A S R G : Nat} {es : List Ent} {t : ByteArray} {s : Int} {mv : Value} {mes : Array MapEntry} {clock : Nat} {M : List P2} (h1 : B ≤ A) (h2 : B ≤ G) (hA : w.heap[A]? = some (.cells (admV S R G mv) 42 (0, 0))) (hG : w.heap[G]? = some (.map mes clock))
    (hm : w.ownsRow B 26 1 mv es.length (es.map fun e => ptrV e.E)) (he : ∀ e ∈ es, EntOk B w e) (hB : B ≤ w.heap.size) (hN : NewSt B A S R G t s mv es.length (es.map fun e => ptrV e.E) (es.map keyOf) w w' M) :
    (∃ E, St B w' A S R G (es ++ [⟨t, s, E, M⟩])) ∧ Below B w w' := by
  obtain ⟨E, mv', es', clock', v, nA, nG, nH, nm, nE, nv, nl, _, nk⟩ := hN
  refine ⟨⟨E, h1, h2, mv', es', clock', nA, nG, by rw [List.map_append]; exact nH, by rw [List.length_append, List.map_append]; exact nm, fun e h => ?_⟩, nk.below B hB (fun k hk h => ?_)⟩
  · rcases List.mem_append.1 h with h | h
    · refine (he e h).keep (fun k c t hk ht => nk.block k (lt_heap hk) (fun h => ?_))
      rcases h with h | h | h
      · rw [h, hA] at hk
        simp only [Option.some.injEq, Obj.cells.injEq] at hk
        rcases ht with ht | ht <;> (rw [ht] at hk; exact absurd hk.2.1 (by decide))
      · rw [h, hG] at hk
        cases hk
      · exact own_type hm hk (by rcases ht with ht | ht <;> (rw [ht]; decide)) h
    · simp only [List.mem_singleton] at h
      subst h
      exact ⟨by show B ≤ E; omega, v, nE, nv⟩
  · rcases h with h | h | h
    · omega
    · omega
    · exact own_far hm hk h

theorem st_old {B : Nat} {w w' : World} {A S R G : Nat} {e : Ent} {v : Value} {mv : Value} {mes : Array MapEntry} {clock : Nat} {M : List P2} (h1 : B ≤ A) (h2 : B ≤ G) (hA : w.heap[A]? = some (.cells (admV S R G mv) 42 (0, 0))) (hG : w.heap[G]? = some (.map mes clock))
    (hH : Holds2 mes.toList ([e].map keyOf)) (hm : w.ownsRow B 26 1 mv [e].length ([e].map fun e => ptrV e.E)) (hE : w.heap[e.E]? = some (.cells (entryV e.t e.s v) 33 (0, 0))) (hv : w.ownsRow B 91 2 v e.L.length (pc e.L)) (hEl : B ≤ e.E) (hB : B ≤ w.heap.size) (hO : OldAt B e.E e.t e.s v w w' M) :
    St B w' A S R G [⟨e.t, e.s, e.E, M⟩] ∧ Below B w w' := by
  obtain ⟨v', oE, ov, _, ok⟩ := hO
  have nAE : A ≠ e.E := fun h => by rw [h, hE] at hA; cases hA
  have nGE : G ≠ e.E := fun h => by rw [h, hE] at hG; cases hG
  refine ⟨⟨h1, h2, mv, mes, clock, ?_, ?_, hH, own_keep hm (fun k hk => ok.block k (hm.lt k hk).2 (fun h => ?_)), fun x h => ?_⟩, ok.below B hB (fun k hk h => ?_)⟩
  · rw [ok.block A (lt_heap hA) (fun h => h.elim nAE (own_type hv hA (by decide)))]; exact hA
  · rw [ok.block G (lt_heap hG) (fun h => h.elim nGE (own_map hv hG))]; exact hG
  · rcases h with h | h
    · exact own_type hm hE (by decide) (by rw [hk, h])
    · rcases hv.2 with ⟨hn, _⟩ | ⟨g, c, cur, hvv, _, hg, _⟩
      · rw [hn] at h; cases h
      · exact own_type hm hg (by decide) (by rw [hk, h, hvv]; rfl)
  · simp only [List.mem_singleton] at h
    subst h
    exact ⟨hEl, v', oE, ov⟩
  · rcases h with h | h
    · omega
    · exact own_far hv hk h

/-- 'carry' of a fresh entry over the state. -/
theorem carry_st {B A S R G : Nat} {es : List Ent} {t : ByteArray} {s : Int} {ao : Option Addr} {c : Nat} {ps : List P2} {wk w2 : World} (hS : St B wk A S R G es) (hb2 : Below wk.heap.size wk w2) (hc : w2.ownsRow wk.heap.size 91 2 (.slice ao ps.length c) ps.length (pc ps))
    (hlk : look (es.map keyOf) t s = none ∨ ∃ e, es = [e] ∧ look (es.map keyOf) t s = some e.E) (hes : es.length ≤ 2) (hL : ∀ e ∈ es, e.L.length ≤ 1024) (hps : ps.length ≤ 1024) (hB : B ≤ wk.heap.size) :
    Calls Yba.prog 7 #[ptrV A, ptrV w2.heap.size] (w2.alloc (.cells (entryV t s (.slice ao ps.length c)) 33)) fun e w' => e = .returned (.tuple #[]) ∧ ∃ es', Nxt es t s ps es' ∧ St B w' A S R G es' ∧ Below B wk w' := by
  have hs2 := hb2.size
  have hb3 : Below wk.heap.size wk (w2.alloc (.cells (entryV t s (.slice ao ps.length c)) 33)) := hb2.alloc hs2 _
  have hSW := hS.below hb3
  have hbB := hb3.mono hB
  by_cases h0 : ps.length = 0
  · have hp : ps = [] := List.eq_nil_of_length_eq_zero h0
    subst hp
    refine (carry_zero A w2.heap.size t s ao c _ (heap_alloc_new w2 _)).mono ?_
    rintro e w' ⟨rfl, rfl⟩
    exact ⟨rfl, es, Or.inl ⟨rfl, rfl⟩, hSW, hbB⟩
  · have hne : ps ≠ [] := fun e => h0 (by rw [e]; rfl)
    obtain ⟨cg, cc, hcv, hcg, _⟩ := hc.form (by omega)
    simp only [Value.slice.injEq, true_and] at hcv
    obtain ⟨rfl, rfl⟩ := hcv
    obtain ⟨h1, h2, mv, mes, clock, hA, hG, hH, hm, he⟩ := hSW
    have hBW : B ≤ (w2.alloc (.cells (entryV t s (.slice (some ⟨cg, 0, none⟩) ps.length c)) 33)).heap.size := by simp; omega
    rcases hlk with hl | ⟨e, rfl, hl⟩
    · refine (carry_new B A S R G w2.heap.size mv es.length _ mes clock (es.map keyOf) t s cg c wk.heap.size ps _ hA hG hH hl hm hBW hes (heap_alloc_new w2 _) (hc.alloc _) hps (by omega)).mono ?_
      rintro e w' ⟨rfl, hN⟩
      obtain ⟨⟨E, hst⟩, hb⟩ := st_new h1 h2 hA hG hm he hBW hN
      exact ⟨rfl, _, Or.inr (Or.inl ⟨hne, hl, E, rfl⟩), hst, hbB.trans hb⟩
    · obtain ⟨hEl, v, hE, hv⟩ := he e (List.mem_singleton.2 rfl)
      obtain ⟨_, _, _, _, _, _, _, _, _, he0⟩ := hS
      obtain ⟨_, v00, hE00, hv00⟩ := he0 e (List.mem_singleton.2 rfl)
      have lE := lt_heap hE00
      have hveq : v = v00 := by
        have hE1 := (hb3.block e.E lE).trans hE00
        rw [hE] at hE1
        simp only [Option.some.injEq, Obj.cells.injEq] at hE1
        have := congrArg (fun (a : Array Value) => a[7]?) hE1.1
        simpa using this
      have ncv : some cg ≠ v.ownBlock := fun h => by
        rw [hveq] at h
        have := (hv00.lt cg h.symm).2
        omega
      refine (carry_old B A S R G e.E w2.heap.size mv mes clock _ t s e.t e.s v e.L cg c wk.heap.size ps _ hA hG hH hl hE hv hBW (hL e (List.mem_singleton.2 rfl)) (heap_alloc_new w2 _) (hc.alloc _) hps (by omega) ncv).mono ?_
      rintro e' w' ⟨rfl, hO⟩
      obtain ⟨hst, hb⟩ := st_old h1 h2 hA hG hH hm hE hv hEl hBW hO
      exact ⟨rfl, _, Or.inr (Or.inr ⟨hne, e, rfl, hl, rfl⟩), hst, hbB.trans hb⟩

end Go.Proofs.Ybulkacre
