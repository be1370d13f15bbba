/-
  '(*admissions).carry' where the breakpoint is known already.
-/
import Derived.Test.YbulkacreAddNew
import Derived.Deep.RegionWith
namespace Go.Proofs.Ybulkacre
open Go.RowKit
open Go.ChangeMaps (setBlock heap_setBlock_same heap_setBlock_other)
attribute [local go_sem ↓] Go.wp_at_zero Go.wp_at_succ

theorem ent2 {w : World} {E : Nat} {t : ByteArray} {s : Int} {v : Value} (h : w.heap[E]? = some (.cells (entryV t s v) 33 (0, 0))) : w.cell? ⟨E, 2, none⟩ = some (.string t) := by
  rw [row_cell h 2]; rfl
theorem ent5 {w : World} {E : Nat} {t : ByteArray} {s : Int} {v : Value} (h : w.heap[E]? = some (.cells (entryV t s v) 33 (0, 0))) : w.cell? ⟨E, 5, none⟩ = some (.int .i64 s) := by
  rw [row_cell h 5]; rfl

/-- The state of the known entry behind k admissions. -/
def OldAt (B E : Nat) (t0 : ByteArray) (s0 : Int) (v0 : Value) (w wr : World) (M : List P2) : Prop :=
  ∃ v, wr.heap[E]? = some (.cells (entryV t0 s0 v) 33 (0, 0)) ∧ wr.ownsRow B 91 2 v M.length (pc M) ∧ (v.ownBlock = v0.ownBlock ∨ ∃ g, v.ownBlock = some g ∧ w.heap.size ≤ g) ∧ Kept w wr (fun k => k = E ∨ some k = v0.ownBlock)

theorem old_step {B E : Nat} {t0 : ByteArray} {s0 : Int} {v0 v : Value} {w wr w' : World} {o : Obj} {M M' : List P2} (hfr : v.ownBlock = v0.ownBlock ∨ ∃ g, v.ownBlock = some g ∧ w.heap.size ≤ g) (hkr : Kept w wr (fun k => k = E ∨ some k = v0.ownBlock))
    (hpost : ∃ v', w'.heap[E]? = some (.cells (entryV t0 s0 v') 33 (0, 0)) ∧ w'.ownsRow B 91 2 v' M'.length (pc M') ∧ (v'.ownBlock = v.ownBlock ∨ ∃ g, v'.ownBlock = some g ∧ (wr.alloc o).drew.heap.size ≤ g) ∧ Kept (wr.alloc o).drew w' (fun k => k = E ∨ some k = v.ownBlock)) (hM : M = M') :
    OldAt B E t0 s0 v0 w w' M := by
  subst hM
  obtain ⟨v', h1, h2, h3, h4⟩ := hpost
  refine ⟨v', h1, h2, ?_, ?_⟩
  · rcases h3 with h | ⟨g, hg, hl⟩
    · rw [h]; exact hfr
    · refine Or.inr ⟨g, hg, ?_⟩
      have := hkr.size
      simp at hl
      omega
  · refine ((hkr.alloc o).drew).trans h4 (fun _ _ h => h) (fun i hi h => ?_)
    rcases h with h | h
    · exact Or.inl h
    · rcases hfr with hf | ⟨g, hg, hl⟩
      · exact Or.inr (h.trans hf)
      · rw [hg] at h
        simp only [Option.some.injEq] at h
        omega

theorem model_step (L ps : List P2) (k : Nat) (h : k < ps.length) : modelL L (ps.take (k + 1)) = addL (modelL L (ps.take k)) (ps[k]) := by
  rw [take_snoc2 ps k h, modelL_snoc]

set_option maxHeartbeats 2000000 in
set_option maxRecDepth 100000 in
theorem carry_old (B A S R G E Q : Nat) (mv : Value) (es : Array MapEntry) (clock : Nat) (ents : List (ByteArray × Int × Nat)) (t : ByteArray) (s : Int) (t0 : ByteArray) (s0 : Int) (v0 : Value) (L : List P2) (cg cc Bc : Nat) (ps : List P2) (w : World)
    (hA : w.heap[A]? = some (.cells (admV S R G mv) 42 (0, 0))) (hG : w.heap[G]? = some (.map es clock)) (hH : Holds2 es.toList ents) (hl : look ents t s = some E)
    (hE : w.heap[E]? = some (.cells (entryV t0 s0 v0) 33 (0, 0))) (hv : w.ownsRow B 91 2 v0 L.length (pc L)) (hBw : B ≤ w.heap.size) (hL : L.length ≤ 1024)
    (hQ : w.heap[Q]? = some (.cells (entryV t s (.slice (some ⟨cg, 0, none⟩) ps.length cc)) 33 (0, 0))) (hc : w.ownsRow Bc 91 2 (.slice (some ⟨cg, 0, none⟩) ps.length cc) ps.length (pc ps)) (hps : ps.length ≤ 1024)
    (nQE : Q ≠ E) (ncv : some cg ≠ v0.ownBlock) :
    Calls Yba.prog 7 #[ptrV A, ptrV Q] w fun e w' => e = .returned (.tuple #[]) ∧ OldAt B E t0 s0 v0 w w' (modelL L ps) := by
  obtain ⟨n, hn⟩ : ∃ n, n = ps.length := ⟨_, rfl⟩
  have q7 := ent7 hQ
  rw [← hn] at q7
  have HN := hide hn
  have hn1 : n ≤ 1024 := by omega
  have HF := hide (And.intro hA (And.intro hG (And.intro hH (And.intro hl (And.intro hE (And.intro hv (And.intro hQ hc)))))))
  clear hn hps hA hG hH hl hE hv hQ hc
  go_enter Yba.func7, Yba.ntmps7
  go_wp2
  go_loopg [11] n (fun r i wr => ∃ k : Nat, k + r = n ∧ i = .int .i64 k ∧ OldAt B E t0 s0 v0 w wr (modelL L (ps.take k)))
  case atStart => exact ⟨0, by omega, rfl, v0, HF.out.2.2.2.2.1, HF.out.2.2.2.2.2.1, Or.inl rfl, Kept.of_below _ (Below.refl _ _)⟩
  case round =>
    obtain ⟨k, hk, rfl, v, hEr, hvr, hfr, hkr⟩ := hrel
    obtain ⟨hA, hG, hH, hl, hE, hv, hQ, hc⟩ := HF.out
    by_cases hlt : k < n
    · have hkp : k < ps.length := by have := HN.out; omega
      have lE := lt_heap hE
      have stay : ∀ b, b < w.heap.size → b ≠ E → some b ≠ v0.ownBlock → wr.heap[b]? = w.heap[b]? := fun b hb h1 h2 => hkr.block b hb (fun h => h.elim h1 h2)
      have nAE : A ≠ E := fun e => by rw [e, hE] at hA; cases hA
      have nGE : G ≠ E := fun e => by rw [e, hE] at hG; cases hG
      have ngE : cg ≠ E := fun e => own_type hc hE (by decide) (by rw [← e]; rfl)
      have hAr := (stay A (lt_heap hA) nAE (own_type hv hA (by decide))).trans hA
      have hGr := (stay G (lt_heap hG) nGE (own_map hv hG)).trans hG
      have hQr := (stay Q (lt_heap hQ) nQE (own_type hv hQ (by decide))).trans hQ
      have hcr : wr.ownsRow Bc 91 2 (.slice (some ⟨cg, 0, none⟩) ps.length cc) ps.length (pc ps) := own_keep hc (fun j hj => by cases hj; exact stay cg (hc.lt cg rfl).2 ngE ncv)
      have c0 := own_cell0 hcr k hkp
      have c1 := own_cell1 hcr k hkp
      have q2 := ent2 hQr
      have q5 := ent5 hQr
      have lQ := lt_heap hQr
      have hML : (modelL L (ps.take k)).length ≤ 2048 := by
        have h1 := (modelL_len (ps.take k) L).2
        have h2 : (ps.take k).length ≤ k := List.length_take_le _ _
        omega
      have hP := add_old B A S R G E mv es clock ents t s (ps[k]) t0 s0 v (modelL L (ps.take k)) (wr.alloc (.cells #[.string (ps[k]).1, .string (ps[k]).2] 91)).drew
        ((Below.heap_alloc wr _ A (lt_heap hAr)).trans hAr) ((Below.heap_alloc wr _ G (lt_heap hGr)).trans hGr) hH hl ((Below.heap_alloc wr _ E (lt_heap hEr)).trans hEr) (hvr.alloc _).drew (by have := hkr.size; simp; omega) hML
      have HX := hide (And.intro hEr (And.intro hvr (And.intro hfr hkr)))
      have hk0 : (0 : Int) ≤ (k : Int) := by omega
      have hk1 : (k : Int) < (n : Int) := by omega
      clear stay hAr hGr hQr hcr hA hG hH hl hE hv hQ hc hEr hvr hfr hkr
      go_wp2
      go_region_with (go_at_call 13; refine hP.mono ?_; rintro e w' ⟨rfl, hpost⟩)
      all_goals
        go_wp2
        go_roundg (n - (k + 1))
        case measure => omega
        case rel => exact ⟨k + 1, by omega, by go_num, old_step HX.out.2.2.1 HX.out.2.2.2 hpost (model_step L ps k hkp)⟩
    · obtain rfl : k = n := by omega
      go_wp2
      go_end0
      refine ⟨rfl, v, hEr, ?_, hfr, hkr⟩
      have e : ps.take k = ps := List.take_of_length_le (by have := HN.out; omega)
      rw [e] at hvr
      exact hvr

end Go.Proofs.Ybulkacre
