/-
  The walk of 'LawS1434ACarryOne'.
-/
import Derived.Test.YbulkacreNew
namespace Go.Proofs.Ybulkacre
open Go.RowKit

theorem holds2_nil : Holds2 (#[] : Array MapEntry).toList [] := rfl

/-- A block below w's size, cells, is as it was behind a carry of a new breakpoint. -/
theorem Pairs.of_kept {B B' : Nat} {w w' : World} {b off : Nat} {ps : List P2} {T : Nat → Prop} (h : Pairs B w b off ps) (hk : Kept w w' T) (hb : b < w.heap.size) (hT : ¬ T b) (hB : b < B') : Pairs B' w' b off ps :=
  have h' := h.kept (hk.block b hb hT)
  ⟨hB, h'.cell0, h'.cell1⟩
theorem Pairs.of_below {B B' C : Nat} {w w' : World} {b off : Nat} {ps : List P2} (h : Pairs B w b off ps) (hk : Below C w w') (hb : b < C) (hB : b < B') : Pairs B' w' b off ps :=
  have h' := h.kept (hk.block b hb)
  ⟨hB, h'.cell0, h'.cell1⟩

set_option maxHeartbeats 2000000 in
set_option maxRecDepth 100000 in
theorem one_some (t : ByteArray) (s : Int) (b off cap : Nat) (ps : List P2) (w : World) (hp : Pairs w.heap.size w b off ps) (hlen : ps.length ≤ 1024) (hpos : 0 < ps.length) :
    Calls Yba.prog 3 #[.string t, .int .i64 s, .slice (some ⟨b, off, none⟩) ps.length cap] w fun e w' => e = .returned (.bool true) ∧ Below w.heap.size w w' := by
  have hd : ¬ (1024 : Int) < (ps.length : Int) := by omega
  have hb := hp.below
  have HP := hide hp
  clear hp
  go_enter Yba.func3, Yba.ntmps3
  go_wp2_with fail
  refine (new_letters w).mono ?_
  rintro e w1 ⟨A, S, R, G, rfl, hA1, hG1, hAl, hGl, hb1⟩
  have hs1 := hb1.size
  have lA := lt_heap hA1
  have lG := lt_heap hG1
  go_wp2_with fail
  refine (conv_some b off cap ps w1 (HP.out.of_below hb1 hb (by omega)) hlen).mono ?_
  rintro e w2 ⟨cv, rfl, hc2, hb2⟩
  obtain ⟨cg, cc, rfl, _, lcg⟩ := hc2.form hpos
  have hs2 := hb2.size
  have hA2 := (hb2.block A lA).trans hA1
  have hG2 := (hb2.block G lG).trans hG1
  clear hA1 hG1
  go_wp2_with fail
  have hC := carry_new w.heap.size A S R G w2.heap.size (.slice none 0 0) 0 [] #[] 0 [] t s cg cc w1.heap.size ps (w2.alloc (.cells (entryV t s (.slice (some ⟨cg, 0, none⟩) ps.length cc)) 33))
    ((Below.heap_alloc w2 _ A (lt_heap hA2)).trans hA2) ((Below.heap_alloc w2 _ G (lt_heap hG2)).trans hG2) holds2_nil rfl (World.ownsRow_nil _ _ _ _) (by simp; omega) (by decide) (heap_alloc_new w2 _) (hc2.alloc _) hlen hpos
  refine hC.mono ?_
  rintro e w4 ⟨rfl, E, mv', es', clock', v, hA4, hG4, hH4, hm4, hE4, hv4, hEl, _, hk4⟩
  have hs4 := hk4.size
  simp only [World.size_alloc] at hs4
  have hb24 : Below w.heap.size w2 w4 := ((Below.refl _ w2).alloc (by omega) _).trans (hk4.below _ (by simp; omega) (fun k hk h => by rcases h with h | h | h; omega; omega; cases h))
  have hb04 : Below w.heap.size w w4 := (hb1.trans (hb2.mono hs1)).trans hb24
  clear hC hk4 hA2 hG2 hc2 hb24
  go_wp2_with fail
  refine (model_some w4.heap.size (.slice none 0 0) [] b off cap ps w4 (World.ownsRow_nil _ _ _ _) (Nat.le_refl _) (HP.out.of_below hb04 hb (by omega)) hlen (by decide)).mono ?_
  rintro e w5 ⟨ao, c5, rfl, hw5, hb5⟩
  obtain ⟨M, hM⟩ : ∃ M, M = modelL [] ps := ⟨_, rfl⟩
  have hMpos : 0 < M.length := by
    obtain ⟨x, xs, hx⟩ : ∃ x xs, ps = x :: xs := by
      cases ps with
      | nil => simp at hpos
      | cons x xs => exact ⟨x, xs, rfl⟩
    rw [hM, hx]
    exact modelL_pos [] x xs
  have hMlen : M.length ≤ 4096 := by
    have := (modelL_len ps []).2
    rw [hM]
    simp only [List.length_nil] at this
    omega
  rw [← hM] at hv4 hw5 ⊢
  clear hM
  have hA5 := (hb5.block A (lt_heap hA4)).trans hA4
  have hG5 := (hb5.block G (lt_heap hG4)).trans hG4
  have hE5 := (hb5.block E (lt_heap hE4)).trans hE4
  have hm5 := own_keep hm4 (fun k hk => hb5.block k (hm4.lt k hk).2)
  have hv5 := own_keep hv4 (fun k hk => hb5.block k (hv4.lt k hk).2)
  have hok := ok_true M E t s w.heap.size w4.heap.size v (.slice ao M.length c5) w5 hMpos hMlen hE5 hv5 hw5
  obtain ⟨g, cm, hmv, _, _⟩ := hm5.form (by omega)
  subst hmv
  have m0 : w5.cell? ⟨g, 0, none⟩ = some (ptrV E) := by
    have := hm5.cells (g := g) rfl 0 (ptrV E) rfl
    rwa [Addr.add_lit] at this
  have a5 := adm5 hA5
  have a6 := adm6 hA5
  have hln : ∀ ty, (Builtin.len_ #[39] ty #[.map (some G)]).run Yba.prog w5 = .ok (.int .i64 1) w5 := fun ty => len39 G es' clock' _ w5 ty hG5 hH4
  have hlk : (Instr.lookup 39 (.map (some G)) (.agg #[.string t, .int .i64 s]) false).run Yba.prog w5 = .ok (ptrV E) w5 := by
    have := lookup39 G es' clock' _ t s w5 hG5 hH4
    rw [look_snoc rfl E] at this
    exact this
  have hne := neq26
  have hb05 : Below w.heap.size w w5 := hb04.trans (hb5.mono (by omega))
  clear hA4 hG4 hm4 hE4 hv4 hA5 hG5 hE5 hm5 hv5 hw5 hH4 hb5 hb04 hb1 hb2
  go_wp2_with fail
  refine hok.mono ?_
  rintro e w6 ⟨rfl, q, rfl⟩
  go_wp2
  go_ret
  exact ⟨rfl, below_drewN hb05 q⟩

set_option maxHeartbeats 2000000 in
set_option maxRecDepth 100000 in
theorem one_zero (t : ByteArray) (s : Int) (a : Option Addr) (cap : Nat) (w : World) :
    Calls Yba.prog 3 #[.string t, .int .i64 s, .slice a 0 cap] w fun e w' => e = .returned (.bool true) ∧ Below w.heap.size w w' := by
  go_enter Yba.func3, Yba.ntmps3
  go_wp2_with fail
  refine (new_letters w).mono ?_
  rintro e w1 ⟨A, S, R, G, rfl, hA1, hG1, hAl, hGl, hb1⟩
  have hs1 := hb1.size
  have lA := lt_heap hA1
  have lG := lt_heap hG1
  go_wp2_with fail
  refine (conv_zero a cap w1).mono ?_
  rintro e w2 ⟨cv, rfl, hc2, hb2⟩
  obtain ⟨ca, cc, rfl⟩ := own_shape hc2
  have hs2 := hb2.size
  have hA2 := (hb2.block A lA).trans hA1
  have hG2 := (hb2.block G lG).trans hG1
  clear hA1 hG1 hc2
  go_wp2_with fail
  have hC := carry_zero A w2.heap.size t s ca cc (w2.alloc (.cells (entryV t s (.slice ca 0 cc)) 33)) (heap_alloc_new w2 _)
  refine hC.mono ?_
  rintro e w4 ⟨rfl, hw4⟩
  have hA4 : w4.heap[A]? = some (.cells (admV S R G (.slice none 0 0)) 42 (0, 0)) := by rw [hw4]; exact (Below.heap_alloc w2 _ A (lt_heap hA2)).trans hA2
  have hG4 : w4.heap[G]? = some (.map #[] 0) := by rw [hw4]; exact (Below.heap_alloc w2 _ G (lt_heap hG2)).trans hG2
  have hb04 : Below w.heap.size w w4 := by rw [hw4]; exact (hb1.trans (hb2.mono hs1)).alloc (by omega) _
  clear hC hA2 hG2 hw4
  go_wp2_with fail
  refine (model_zero w4.heap.size (.slice none 0 0) [] a cap w4 (World.ownsRow_nil _ _ _ _)).mono ?_
  rintro e w5 ⟨ao, c5, rfl, hw5, hb5⟩
  have hA5 := (hb5.block A (lt_heap hA4)).trans hA4
  have hG5 := (hb5.block G (lt_heap hG4)).trans hG4
  have a5 := adm5 hA5
  have a6 := adm6 hA5
  have hln : ∀ ty, (Builtin.len_ #[39] ty #[.map (some G)]).run Yba.prog w5 = .ok (.int .i64 0) w5 := fun ty => len39 G #[] 0 [] w5 ty hG5 holds2_nil
  have hb05 : Below w.heap.size w w5 := hb04.trans (hb5.mono hb04.size)
  have hz : (modelL [] []).length = 0 := rfl
  clear hA4 hG4 hA5 hG5 hw5 hb5 hb04 hb1 hb2
  go_wp2
  go_ret
  exact ⟨rfl, hb05⟩

set_option maxHeartbeats 1000000 in
theorem one_long (t : ByteArray) (s : Int) (a : Option Addr) (len cap : Nat) (w : World) (h : 1024 < len) :
    Calls Yba.prog 3 #[.string t, .int .i64 s, .slice a len cap] w fun e w' => e = .returned (.bool true) ∧ Below w.heap.size w w' := by
  have hd : (1024 : Int) < (len : Int) := by omega
  go_enter Yba.func3, Yba.ntmps3
  go_wp2
  go_ret
  exact ⟨rfl, Below.refl _ _⟩

end Go.Proofs.Ybulkacre
