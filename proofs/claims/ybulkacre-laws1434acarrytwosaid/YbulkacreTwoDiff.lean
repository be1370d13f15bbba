/-
  The walk of 'LawS1434ACarryTwo' where the breakpoints differ.
-/
import Derived.Test.YbulkacreTwoSame
namespace Go.Proofs.Ybulkacre
open Go.RowKit

theorem bytes_eq {a b : ByteArray} (h : (a.toList == b.toList) = true) : a = b := by
  rw [Go.ByteArray.toList_eq, Go.ByteArray.toList_eq] at h
  obtain ⟨⟨x⟩⟩ := a
  obtain ⟨⟨y⟩⟩ := b
  simp at h
  rw [h]

theorem sameK_ne {a b : ByteArray} {x y : Int} (h : ¬ (a = b ∧ x = y)) : sameK a b x y = false := by
  unfold sameK
  rw [beq_toListBytes]
  cases h1 : (a.toList == b.toList) with
  | false => rfl
  | true =>
    have hab := bytes_eq h1
    by_cases hxy : x = y
    · exact absurd ⟨hab, hxy⟩ h
    · simp [hxy]

theorem look_diff {t1 t2 : ByteArray} {s1 s2 : Int} {ps : List P2} {es : List Ent} (hne : ¬ (t1 = t2 ∧ s1 = s2)) (h : Nxt [] t1 s1 ps es) : look (es.map keyOf) t2 s2 = none := by
  have hne' : ¬ (t2 = t1 ∧ s2 = s1) := fun h => hne ⟨h.1.symm, h.2.symm⟩
  rcases nxt_first h with ⟨rfl, rfl⟩ | ⟨_, E, rfl⟩
  · rfl
  · simp [look, keyOf, sameK_ne hne']

theorem look_two1 (t1 t2 : ByteArray) (s1 s2 : Int) (E1 E2 : Nat) (L1 L2 : List P2) : look ([(⟨t1, s1, E1, L1⟩ : Ent), ⟨t2, s2, E2, L2⟩].map keyOf) t1 s1 = some E1 := by
  simp [look, keyOf, sameK_refl]
theorem look_two2 {t1 t2 : ByteArray} {s1 s2 : Int} (hne : ¬ (t1 = t2 ∧ s1 = s2)) (E1 E2 : Nat) (L1 L2 : List P2) : look ([(⟨t1, s1, E1, L1⟩ : Ent), ⟨t2, s2, E2, L2⟩].map keyOf) t2 s2 = some E2 := by
  have hne' : ¬ (t2 = t1 ∧ s2 = s1) := fun h => hne ⟨h.1.symm, h.2.symm⟩
  simp [look, keyOf, sameK_refl, sameK_ne hne']

/-- Behind both carries at two breakpoints. -/
theorem nxt_diff {t1 t2 : ByteArray} {s1 s2 : Int} {ps1 ps2 : List P2} {es1 es2 : List Ent} (hne : ¬ (t1 = t2 ∧ s1 = s2)) (h1 : Nxt [] t1 s1 ps1 es1) (h2 : Nxt es1 t2 s2 ps2 es2) :
    (modelL [] ps1 = [] ∧ modelL [] ps2 = [] ∧ es2 = []) ∨ (0 < (modelL [] ps1).length ∧ modelL [] ps2 = [] ∧ ∃ E, es2 = [⟨t1, s1, E, modelL [] ps1⟩]) ∨
    (modelL [] ps1 = [] ∧ 0 < (modelL [] ps2).length ∧ ∃ E, es2 = [⟨t2, s2, E, modelL [] ps2⟩]) ∨
    (0 < (modelL [] ps1).length ∧ 0 < (modelL [] ps2).length ∧ ∃ E1 E2, es2 = [⟨t1, s1, E1, modelL [] ps1⟩, ⟨t2, s2, E2, modelL [] ps2⟩]) := by
  have hl := look_diff hne h1
  have h2' : (ps2 = [] ∧ es2 = es1) ∨ (ps2 ≠ [] ∧ ∃ E, es2 = es1 ++ [⟨t2, s2, E, modelL [] ps2⟩]) := by
    rcases h2 with h | ⟨a, _, b⟩ | ⟨_, _, _, h, _⟩
    · exact Or.inl h
    · exact Or.inr ⟨a, b⟩
    · rw [hl] at h; cases h
  rcases nxt_first h1 with ⟨rfl, rfl⟩ | ⟨hn1, E1, rfl⟩
  · rcases h2' with ⟨rfl, rfl⟩ | ⟨hn2, E2, rfl⟩
    · exact Or.inl ⟨rfl, rfl, rfl⟩
    · exact Or.inr (Or.inr (Or.inl ⟨rfl, len_pos_of_ne hn2 _, E2, rfl⟩))
  · rcases h2' with ⟨rfl, rfl⟩ | ⟨hn2, E2, rfl⟩
    · exact Or.inr (Or.inl ⟨len_pos_of_ne hn1 _, rfl, E1, rfl⟩)
    · exact Or.inr (Or.inr (Or.inr ⟨len_pos_of_ne hn1 _, len_pos_of_ne hn2 _, E1, E2, rfl⟩))

set_option maxHeartbeats 4000000 in
set_option maxRecDepth 100000 in
theorem two_diff (t1 : ByteArray) (s1 : Int) (a1 : Option Addr) (cap1 : Nat) (ps1 : List P2) (t2 : ByteArray) (s2 : Int) (a2 : Option Addr) (cap2 : Nat) (ps2 : List P2) (w : World) (hne : ¬ (t1 = t2 ∧ s1 = s2)) (h1 : In w.heap.size w a1 ps1.length ps1) (h2 : In w.heap.size w a2 ps2.length ps2) (hl1 : ps1.length ≤ 1024) (hl2 : ps2.length ≤ 1024) :
    Calls Yba.prog 4 #[.string t1, .int .i64 s1, .slice a1 ps1.length cap1, .string t2, .int .i64 s2, .slice a2 ps2.length cap2] w fun e w' => e = .returned (.bool true) ∧ Below w.heap.size w w' := by
  have hd1 : ¬ (1024 : Int) < (ps1.length : Int) := by omega
  have hd2 : ¬ (1024 : Int) < (ps2.length : Int) := by omega
  have H1 := hide h1
  have H2 := hide h2
  have HNE := hide hne
  clear h1 h2 hne
  go_enter Yba.func4, Yba.ntmps4
  go_wp2_with fail
  refine (new_letters w).mono ?_
  rintro e w1 ⟨A, S, R, G, rfl, hA1, hG1, hAl, hGl, hb1⟩
  have st1 := st_fresh hA1 hG1 hAl hGl
  have hs1 := hb1.size
  clear hA1 hG1
  go_wp2_with fail
  refine (conv_any (cap := cap1) (H1.out.below hb1) hs1 hl1).mono ?_
  rintro e w2 ⟨ao2, c2, rfl, hc2, hb2⟩
  have hs2 := hb2.size
  go_wp2_with fail
  refine (carry_st (t := t1) (s := s1) st1 hb2 hc2 (Or.inl rfl) (by decide) (fun _ h => by cases h) hl1 hs1).mono ?_
  rintro e w3 ⟨rfl, es1, hn1, st3, hb13⟩
  have hb03 := hb1.trans hb13
  have hs3 := hb03.size
  have HN1 := hide hn1
  have HS3 := hide st3
  clear st1 hc2 hb2 hb13 hb1 hn1 st3
  go_wp2_with fail
  refine (conv_any (cap := cap2) (H2.out.below hb03) hs3 hl2).mono ?_
  rintro e w4 ⟨ao4, c4, rfl, hc4, hb4⟩
  have hs4 := hb4.size
  go_wp2_with fail
  refine (carry_st (t := t2) (s := s2) HS3.out hb4 hc4 (Or.inl (look_diff HNE.out HN1.out)) (small_first HN1.out hl1).1 (small_first HN1.out hl1).2 hl2 hs3).mono ?_
  rintro e w5 ⟨rfl, es2, hn2, st5, hb35⟩
  have hb05 := hb03.trans hb35
  have hs5 := hb05.size
  have HC := hide (nxt_diff HNE.out HN1.out hn2)
  have HS5 := hide st5
  clear hc4 hb4 hb35 hb03 HS3 HN1 hn2 st5
  go_upto_region 6 with fail
  go_cut [51] (fun c w' => c = .bool false ∧ w5 = w')
  case first =>
    cases ht : (t1.toList == t2.toList)
    · go_wp2
      go_meet
      case rel => exact ⟨rfl, rfl⟩
    · have hs : (s1 == s2) = false := by
        have e := bytes_eq ht
        simp only [beq_eq_false_iff_ne, ne_eq]
        exact fun h => HNE.out ⟨e, h⟩
      go_wp2
      go_meet
      case rel => exact ⟨rfl, rfl⟩
  obtain ⟨rfl, rfl⟩ := hcut
  go_wp2_with fail
  refine (model_any (B := w5.heap.size) (l := []) (cap := cap1) (ps := ps1) (World.ownsRow_nil _ _ _ _) (H1.out.below hb05) hs5 (Nat.le_refl _) hl1 (by decide)).mono ?_
  rintro e w6 ⟨ao6, c6, rfl, ho6, hb6⟩
  have hs6 := hb6.size
  have hb06 := hb05.trans (hb6.mono hs5)
  go_wp2_with fail
  refine (model_any (B := w6.heap.size) (l := []) (cap := cap2) (ps := ps2) (World.ownsRow_nil _ _ _ _) (H2.out.below hb06) (by omega) (Nat.le_refl _) hl2 (by decide)).mono ?_
  rintro e w7 ⟨ao7, c7, rfl, ho7, hb7⟩
  have hb07 := hb06.trans (hb7.mono (by omega))
  have st7 := (HS5.out.below hb6).below hb7
  have ho6' := own_keep ho6 (fun k hk => hb7.block k (ho6.lt k hk).2)
  have hc7 := HC.out
  have hMl1 : (modelL [] ps1).length ≤ 4096 := by
    have := (modelL_len ps1 []).2
    simp only [List.length_nil] at this
    omega
  have hMl2 : (modelL [] ps2).length ≤ 4096 := by
    have := (modelL_len ps2 []).2
    simp only [List.length_nil] at this
    omega
  obtain ⟨M1, hM1⟩ : ∃ M, M = modelL [] ps1 := ⟨_, rfl⟩
  obtain ⟨M2, hM2⟩ : ∃ M, M = modelL [] ps2 := ⟨_, rfl⟩
  rw [← hM1] at hc7 ho6' hMl1 ⊢
  rw [← hM2] at hc7 ho7 hMl2 ⊢
  clear hM1 hM2 ho6 hb6 hb7 hb06 HS5 HC H1 H2 hb05
  obtain ⟨ma, mc, a6, hmade⟩ := st7.a6
  have a5 := st7.a5
  have hq := neq26
  rcases hc7 with ⟨rfl, rfl, rfl⟩ | ⟨hpos1, rfl, E, rfl⟩ | ⟨rfl, hpos2, E, rfl⟩ | ⟨hpos1, hpos2, E1, E2, rfl⟩
  · have hln : ∀ ty, (Builtin.len_ #[39] ty #[.map (some G)]).run Yba.prog w7 = .ok (.int .i64 0) w7 := fun ty => st7.len 0 ty
    clear st7 hmade ho7 ho6'
    simp only [List.length_nil] at a6
    go_wp2
    go_ret
    exact ⟨rfl, hb07⟩
  · obtain ⟨g, rfl, hcell⟩ := hmade (by simp)
    have m0 : w7.cell? ⟨g, 0, none⟩ = some (ptrV E) := hcell 0 (by simp)
    simp only [List.length_cons, List.length_nil, Nat.zero_add] at a6
    have hln : ∀ ty, (Builtin.len_ #[39] ty #[.map (some G)]).run Yba.prog w7 = .ok (.int .i64 1) w7 := fun ty => st7.len 0 ty
    have hlk := st7.look (look_one t1 s1 E M1)
    have hok := st7.ok (List.mem_singleton.2 rfl) hpos1 hMl1 ho6'
    have HK := hide hok
    clear st7 hmade hcell ho7 ho6' hok
    go_wp2
    go_quiet ((go_at_call 10; exact Calls.quiet_of (HK.out _)))
    go_wp2
    go_ret
    exact ⟨rfl, below_drewN hb07 _⟩
  · obtain ⟨g, rfl, hcell⟩ := hmade (by simp)
    have m0 : w7.cell? ⟨g, 0, none⟩ = some (ptrV E) := hcell 0 (by simp)
    simp only [List.length_cons, List.length_nil, Nat.zero_add] at a6
    have hln : ∀ ty, (Builtin.len_ #[39] ty #[.map (some G)]).run Yba.prog w7 = .ok (.int .i64 1) w7 := fun ty => st7.len 0 ty
    have hlk := st7.look (look_one t2 s2 E M2)
    have hok := st7.ok (List.mem_singleton.2 rfl) hpos2 hMl2 ho7
    have HK := hide hok
    clear st7 hmade hcell ho7 ho6' hok
    go_wp2
    go_quiet ((go_at_call 10; exact Calls.quiet_of (HK.out _)))
    go_wp2
    go_ret
    exact ⟨rfl, below_drewN hb07 _⟩
  · obtain ⟨g, rfl, hcell⟩ := hmade (by simp)
    have m0 : w7.cell? ⟨g, 0, none⟩ = some (ptrV E1) := hcell 0 (by simp)
    have m1 : w7.cell? ⟨g, 1, none⟩ = some (ptrV E2) := hcell 1 (by simp)
    simp only [List.length_cons, List.length_nil, Nat.zero_add] at a6
    have hln : ∀ ty, (Builtin.len_ #[39] ty #[.map (some G)]).run Yba.prog w7 = .ok (.int .i64 2) w7 := fun ty => st7.len 0 ty
    have hlk1 := st7.look (look_two1 t1 t2 s1 s2 E1 E2 M1 M2)
    have hlk2 := st7.look (look_two2 HNE.out E1 E2 M1 M2)
    have hok1 := st7.ok (List.mem_cons.2 (Or.inl rfl)) hpos1 hMl1 ho6'
    have hok2 := st7.ok (List.mem_cons.2 (Or.inr (List.mem_singleton.2 rfl))) hpos2 hMl2 ho7
    have HK1 := hide hok1
    have HK2 := hide hok2
    clear st7 hmade hcell ho7 ho6' hok1 hok2
    go_upto_if 146 with fail
    go_cut [18] (fun i w' => i = .int .i64 1 ∧ ∃ q, w' = w7.drewN q)
    case first =>
      go_wp2
      go_quiet ((go_at_call 10; exact Calls.quiet_of (HK1.out _)))
      go_wp2
      go_meet
      case rel => exact ⟨rfl, _, rfl⟩
    obtain ⟨rfl, q, hwq⟩ := hcut
    have b5 : wc.cell? ⟨A, 5, none⟩ = some (.map (some G)) := by rw [hwq]; exact a5
    have b6 : wc.cell? ⟨A, 6, none⟩ = some (.slice (some ⟨g, 0, none⟩) 2 mc) := by rw [hwq]; exact a6
    have n1 : wc.cell? ⟨g, 1, none⟩ = some (ptrV E2) := by rw [hwq]; exact m1
    have blk : ∀ n, (Instr.lookup 39 (.map (some G)) (.agg #[.string t2, .int .i64 s2]) false).run Yba.prog (wc.drewN n) = .ok (ptrV E2) (wc.drewN n) := fun n => by rw [hwq, World.drewN_drewN]; exact hlk2 _
    have bok : ∀ n, Calls Yba.prog 10 #[ptrV E2, .string t2, .int .i64 s2, .slice ao7 M2.length c7] (wc.drewN n) fun r w' => r = .returned (.bool true) ∧ ∃ q, w' = (wc.drewN n).drewN q := fun n => by rw [hwq, World.drewN_drewN]; exact HK2.out _
    have bbl : Below w.heap.size w wc := by rw [hwq]; exact below_drewN hb07 q
    have HB := hide bok
    clear hwq a5 a6 m0 m1 hln hlk1 hlk2 HK1 HK2 bok hb07
    go_wp2
    go_quiet ((go_at_call 10; exact Calls.quiet_of (HB.out _)))
    go_wp2
    go_ret
    exact ⟨rfl, below_drewN bbl _⟩

end Go.Proofs.Ybulkacre
