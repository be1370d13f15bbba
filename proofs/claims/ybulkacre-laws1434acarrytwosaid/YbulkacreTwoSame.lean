/-
  The walk of 'LawS1434ACarryTwo' where the breakpoints agree.
-/
import Derived.Test.YbulkacreSt
namespace Go.Proofs.Ybulkacre
open Go.RowKit

section
variable {B : Nat} {w : World} {A S R G : Nat} {es : List Ent}

theorem St.a5 (h : St B w A S R G es) : w.cell? ⟨A, 5, none⟩ = some (.map (some G)) := by
  obtain ⟨_, _, _, _, _, hA, _⟩ := h
  exact adm5 hA
theorem St.a6 (h : St B w A S R G es) : ∃ ao c, w.cell? ⟨A, 6, none⟩ = some (.slice ao es.length c) ∧ (0 < es.length → ∃ g, ao = some ⟨g, 0, none⟩ ∧ ∀ i (hi : i < es.length), w.cell? ⟨g, i, none⟩ = some (ptrV (es[i]).E)) := by
  obtain ⟨_, _, mv, _, _, hA, _, _, hm, _⟩ := h
  obtain ⟨ao, c, rfl⟩ := own_shape hm
  refine ⟨ao, c, adm6 hA, fun hp => ?_⟩
  obtain ⟨g, c', hv, _, _⟩ := hm.form hp
  simp only [Value.slice.injEq, true_and] at hv
  obtain ⟨rfl, rfl⟩ := hv
  refine ⟨g, rfl, fun i hi => ?_⟩
  have := hm.cells (g := g) rfl i (ptrV (es[i]).E) (by simp [hi])
  rwa [Addr.add_lit, Nat.zero_add] at this
theorem St.len (h : St B w A S R G es) : ∀ n ty, (Builtin.len_ #[39] ty #[.map (some G)]).run Yba.prog (w.drewN n) = .ok (.int .i64 es.length) (w.drewN n) := by
  obtain ⟨_, _, mv, mes, clock, hA, hG, hH, hm, _⟩ := h
  intro n ty
  have := len39 G mes clock _ (w.drewN n) ty hG hH
  rwa [List.length_map] at this
theorem St.look (h : St B w A S R G es) {t : ByteArray} {s : Int} {E : Nat} (hl : look (es.map keyOf) t s = some E) : ∀ n, (Instr.lookup 39 (.map (some G)) (.agg #[.string t, .int .i64 s]) false).run Yba.prog (w.drewN n) = .ok (ptrV E) (w.drewN n) := by
  obtain ⟨_, _, mv, mes, clock, hA, hG, hH, hm, _⟩ := h
  intro n
  have := lookup39 G mes clock _ t s (w.drewN n) hG hH
  rw [hl] at this
  exact this
theorem St.ok (h : St B w A S R G es) {e : Ent} (he : e ∈ es) (hpos : 0 < e.L.length) (hlen : e.L.length ≤ 4096) {B2 : Nat} {v2 : Value} (h2 : w.ownsRow B2 91 2 v2 e.L.length (pc e.L)) :
    ∀ n, Calls Yba.prog 10 #[ptrV e.E, .string e.t, .int .i64 e.s, v2] (w.drewN n) fun r w' => r = .returned (.bool true) ∧ ∃ q, w' = (w.drewN n).drewN q := by
  obtain ⟨_, _, mv, mes, clock, _, _, _, _, hes⟩ := h
  obtain ⟨_, v, hE, hv⟩ := hes e he
  intro n
  exact ok_true e.L e.E e.t e.s B B2 v v2 (w.drewN n) hpos hlen hE (own_drewN hv n) (own_drewN h2 n)
end

theorem st_fresh {w w1 : World} {A S R G : Nat} (hA : w1.heap[A]? = some (.cells (admV S R G (.slice none 0 0)) 42 (0, 0))) (hG : w1.heap[G]? = some (.map #[] 0)) (h1 : w.heap.size ≤ A) (h2 : w.heap.size ≤ G) : St w.heap.size w1 A S R G [] :=
  ⟨h1, h2, _, _, _, hA, hG, holds2_nil, World.ownsRow_nil _ _ _ _, fun _ h => by cases h⟩

/-- Behind the first carry. -/
theorem nxt_first {t : ByteArray} {s : Int} {ps : List P2} {es : List Ent} (h : Nxt [] t s ps es) : (ps = [] ∧ es = []) ∨ (ps ≠ [] ∧ ∃ E, es = [⟨t, s, E, modelL [] ps⟩]) := by
  rcases h with ⟨h1, h2⟩ | ⟨h1, _, E, h2⟩ | ⟨_, e, h2, _⟩
  · exact Or.inl ⟨h1, h2⟩
  · exact Or.inr ⟨h1, E, h2⟩
  · cases h2

theorem look_one (t : ByteArray) (s : Int) (E : Nat) (L : List P2) : look ([(⟨t, s, E, L⟩ : Ent)].map keyOf) t s = some E := by
  simp [look, keyOf, sameK_refl]

theorem len_pos_of_ne {ps : List P2} (h : ps ≠ []) (l : List P2) : 0 < (modelL l ps).length := by
  cases ps with
  | nil => exact absurd rfl h
  | cons x xs => exact modelL_pos l x xs

/-- Behind both carries at one breakpoint. -/
theorem nxt_same {t : ByteArray} {s : Int} {ps1 ps2 : List P2} {es1 es2 : List Ent} (h1 : Nxt [] t s ps1 es1) (h2 : Nxt es1 t s ps2 es2) :
    (es2 = [] ∧ modelL (modelL [] ps1) ps2 = []) ∨ (0 < (modelL (modelL [] ps1) ps2).length ∧ ∃ E, es2 = [⟨t, s, E, modelL (modelL [] ps1) ps2⟩]) := by
  rcases nxt_first h1 with ⟨rfl, rfl⟩ | ⟨hn1, E, rfl⟩
  · rcases nxt_first h2 with ⟨rfl, rfl⟩ | ⟨hn2, E, rfl⟩
    · exact Or.inl ⟨rfl, rfl⟩
    · exact Or.inr ⟨len_pos_of_ne hn2 _, E, rfl⟩
  · right
    have hp := len_pos_of_ne hn1 []
    have hp2 := (modelL_len ps2 (modelL [] ps1)).1
    refine ⟨by omega, E, ?_⟩
    rcases h2 with ⟨rfl, rfl⟩ | ⟨_, hl, _⟩ | ⟨_, e, he, _, rfl⟩
    · rfl
    · rw [look_one] at hl
      cases hl
    · cases he
      rfl

theorem small_first {t : ByteArray} {s : Int} {ps : List P2} {es : List Ent} (h : Nxt [] t s ps es) (hl : ps.length ≤ 1024) : es.length ≤ 2 ∧ ∀ e ∈ es, e.L.length ≤ 1024 := by
  rcases nxt_first h with ⟨rfl, rfl⟩ | ⟨_, E, rfl⟩
  · exact ⟨by simp, fun e h => by cases h⟩
  · refine ⟨by simp, fun e h => ?_⟩
    simp only [List.mem_singleton] at h
    subst h
    have := (modelL_len ps []).2
    simp only [List.length_nil] at this
    show (modelL [] ps).length ≤ 1024
    omega

theorem look_first {t : ByteArray} {s : Int} {ps : List P2} {es : List Ent} (h : Nxt [] t s ps es) : look (es.map keyOf) t s = none ∨ ∃ e, es = [e] ∧ look (es.map keyOf) t s = some e.E := by
  rcases nxt_first h with ⟨rfl, rfl⟩ | ⟨_, E, rfl⟩
  · exact Or.inl rfl
  · exact Or.inr ⟨_, rfl, look_one _ _ _ _⟩

set_option maxHeartbeats 2000000 in
set_option maxRecDepth 100000 in
theorem two_same (t : ByteArray) (s : Int) (a1 : Option Addr) (cap1 : Nat) (ps1 : List P2) (a2 : Option Addr) (cap2 : Nat) (ps2 : List P2) (w : World) (h1 : In w.heap.size w a1 ps1.length ps1) (h2 : In w.heap.size w a2 ps2.length ps2) (hl1 : ps1.length ≤ 1024) (hl2 : ps2.length ≤ 1024) :
    Calls Yba.prog 4 #[.string t, .int .i64 s, .slice a1 ps1.length cap1, .string t, .int .i64 s, .slice a2 ps2.length cap2] w fun e w' => e = .returned (.bool true) ∧ Below w.heap.size w w' := by
  have hd1 : ¬ (1024 : Int) < (ps1.length : Int) := by omega
  have hd2 : ¬ (1024 : Int) < (ps2.length : Int) := by omega
  have H1 := hide h1
  have H2 := hide h2
  clear h1 h2
  go_enter Yba.func4, Yba.ntmps4
  go_wp2_with fail
  refine (new_letters w).mono ?_
  rintro e w1 ⟨A, S, R, G, rfl, hA1, hG1, hAl, hGl, hb1⟩
  have st1 := st_fresh hA1 hG1 hAl hGl
  have hs1 := hb1.size
  clear hA1 hG1
  go_wp2_with fail
  refine (conv_any (cap := cap1) (H1.out.below hb1) hs1 hl1).mono ?_
  rintro e w2 ⟨ao2, c2, rfl, hc2, hb2⟩
  have hs2 := hb2.size
  go_wp2_with fail
  refine (carry_st (t := t) (s := s) st1 hb2 hc2 (Or.inl rfl) (by decide) (fun _ h => by cases h) hl1 hs1).mono ?_
  rintro e w3 ⟨rfl, es1, hn1, st3, hb13⟩
  have hb03 := hb1.trans hb13
  have hs3 := hb03.size
  have HN1 := hide hn1
  have HS3 := hide st3
  clear st1 hc2 hb2 hb13 hb1 hn1 st3
  go_wp2_with fail
  refine (conv_any (cap := cap2) (H2.out.below hb03) hs3 hl2).mono ?_
  rintro e w4 ⟨ao4, c4, rfl, hc4, hb4⟩
  have hs4 := hb4.size
  go_wp2_with fail
  refine (carry_st (t := t) (s := s) HS3.out hb4 hc4 (look_first HN1.out) (small_first HN1.out hl1).1 (small_first HN1.out hl1).2 hl2 hs3).mono ?_
  rintro e w5 ⟨rfl, es2, hn2, st5, hb35⟩
  have hb05 := hb03.trans hb35
  have hs5 := hb05.size
  have HC := hide (nxt_same HN1.out hn2)
  have HS5 := hide st5
  clear hc4 hb4 hb35 hb03 HS3 HN1 hn2 st5
  go_wp2_with fail
  refine (model_any (B := w5.heap.size) (l := []) (cap := cap1) (ps := ps1) (World.ownsRow_nil _ _ _ _) (H1.out.below hb05) hs5 (Nat.le_refl _) hl1 (by decide)).mono ?_
  rintro e w6 ⟨ao6, c6, rfl, ho6, hb6⟩
  have hs6 := hb6.size
  have hb06 := hb05.trans (hb6.mono hs5)
  have hl6 : (modelL [] ps1).length ≤ 1024 := by
    have := (modelL_len ps1 []).2
    simp only [List.length_nil] at this
    omega
  go_wp2_with fail
  refine (model_any (B := w5.heap.size) (cap := cap2) (ps := ps2) ho6 (H2.out.below hb06) hs5 hs6 hl2 hl6).mono ?_
  rintro e w7 ⟨ao7, c7, rfl, ho7, hb7⟩
  have hb07 := hb06.trans (hb7.mono hs5)
  have st7 := HS5.out.below (hb6.trans hb7)
  have hc7 := HC.out
  have hMl : (modelL (modelL [] ps1) ps2).length ≤ 4096 := by
    have := (modelL_len ps2 (modelL [] ps1)).2
    omega
  obtain ⟨M, hM⟩ : ∃ M, M = modelL (modelL [] ps1) ps2 := ⟨_, rfl⟩
  rw [← hM] at hc7 ho7 hMl ⊢
  clear hM ho6 hb6 hb7 hb06 HS5 HC hl6 H1 H2
  obtain ⟨ma, mc, a6, hmade⟩ := st7.a6
  have a5 := st7.a5
  rcases hc7 with ⟨rfl, rfl⟩ | ⟨hpos, E, rfl⟩
  · have hln : ∀ ty, (Builtin.len_ #[39] ty #[.map (some G)]).run Yba.prog w7 = .ok (.int .i64 0) w7 := fun ty => st7.len 0 ty
    clear st7 hmade ho7
    simp only [List.length_nil] at a6
    go_wp2
    go_ret
    exact ⟨rfl, hb07⟩
  · obtain ⟨g, rfl, hcell⟩ := hmade (by simp)
    have m0 : w7.cell? ⟨g, 0, none⟩ = some (ptrV E) := hcell 0 (by simp)
    simp only [List.length_cons, List.length_nil, Nat.zero_add] at a6
    have hln : ∀ ty, (Builtin.len_ #[39] ty #[.map (some G)]).run Yba.prog w7 = .ok (.int .i64 1) w7 := fun ty => st7.len 0 ty
    have hlk := st7.look (look_one t s E M)
    have hok := st7.ok (List.mem_singleton.2 rfl) hpos hMl ho7
    have hq := eql26
    have HK := hide hok
    clear st7 hmade hcell ho7 hok
    go_wp2
    go_quiet ((go_at_call 10; exact Calls.quiet_of (HK.out _)))
    go_wp2
    go_ret
    exact ⟨rfl, below_drewN hb07 _⟩

end Go.Proofs.Ybulkacre
