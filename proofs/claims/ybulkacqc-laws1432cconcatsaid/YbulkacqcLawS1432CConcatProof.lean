/-
  The proof of 'Rows.LawS1432CConcatSaid': the frame as the skeleton tool wrote it for this function, the walk filled in by hand.
-/
import Derived.Test.YbulkacqcRows
import Derived.Test.YbulkacqcRecord
import Derived.WalkKit
import Derived.ProofKit
import Derived.OpenShut
import Derived.ShutString
import Derived.ChangeOld
import Derived.Below
namespace Go.Proofs.Ybulkacqc.lawS1432CConcat
open Go.ChangeShapes Go.WideShapes Go.ChangeAt Go.RowKit
open Go.ChangeMaps (open_string shut_string)
set_option linter.unusedVariables false

theorem own : ownKnob Yba.prog.godebug = none := by kernel_rfl
theorem laidOut : laidOutB Yba.prog = true := by kernel_rfl

/-- WHAT THE WALK IS TOLD OF A SLICE OF INTEGERS THAT CAME IN: it is nil; or it leads to a row of 'cap' cells, the numbers 'zs' (the first 'len' are its elements, the rest its spare room), each fitting its kind. -/
def IsRow (k : IntKind) (w : World) (a : Option Addr) (len cap : Nat) (zs : List Int) : Prop :=
  (a = none ∧ len = 0 ∧ cap = 0 ∧ zs = []) ∨
  ∃ x, a = some x ∧ len ≤ cap ∧ cap ≤ maxLen ∧ zs.length = cap ∧ (∀ i, i < zs.length → w.cell? (x.add i) = some (.int k (zs.getD i 0))) ∧ ∀ n ∈ zs, (Lit.int k n).wf = true

/-! ### STEP 1: THE WALK -/
theorem src_of {w : World} {a : Option Addr} {len cap : Nat} {zs : List Int} (h : IsRow .u8 w a len cap zs) : Src w.heap.size w a len cap (zs.take len) := by
  rcases h with ⟨rfl, rfl, rfl, rfl⟩ | ⟨x, rfl, hl, hm, hz, hc, _⟩
  · exact ⟨rfl, fun _ => ⟨rfl, rfl⟩, fun x hx => by cases hx⟩
  · refine ⟨by rw [List.length_take]; omega, fun h => (by cases h), fun y hy j u hu => ?_⟩
    cases hy
    have hj : j < len := by
      have := (List.getElem?_eq_some_iff.1 hu).1
      rw [bc_length, List.length_take] at this
      omega
    have hu' : u = .int .u8 (zs.getD j 0) := by
      simp only [bc, List.getElem?_map, List.getElem?_take, if_pos hj, List.getElem?_eq_getElem (show j < zs.length by omega), Option.map_some, Option.some.injEq] at hu
      rw [← hu]
      simp [List.getD, List.getElem?_eq_getElem (show j < zs.length by omega)]
    have hcell := hc j (by omega)
    refine ⟨by rw [hu']; exact hcell, ?_⟩
    have := World.block_lt_of_cell? w _ hcell
    rwa [add_block] at this

theorem own_below {w w' : World} {B n : Nat} {v : Value} {xs : List Value} (h : w.ownsRow B 5 1 v n xs) (hb : Below w.heap.size w w') : w'.ownsRow B 5 1 v n xs := by
  refine ⟨h.1, ?_⟩
  rcases h.2 with hn | ⟨g, cap, cur, rfl, hB, hg, r⟩
  · exact Or.inl hn
  · exact Or.inr ⟨g, cap, cur, rfl, hB, by rw [hb.block g (Array.getElem?_eq_some_iff.1 hg).1]; exact hg, r⟩

theorem u32_bd {a : Int} (h : (Lit.int .u32 a).wf = true) : 0 ≤ a ∧ a < 4294967296 := by
  have := bounds_u32 h
  omega

/-- appendRecord, its result at an address. -/
theorem rec_at (B n : Nat) (id : Int) (hid : 0 ≤ id ∧ id < 4294967296) (sv : Value) (xs : List Int) (a : Option Addr) (len cap : Nat) (zs : List Int) (w : World)
    (hown : w.ownsRow B 5 1 sv n (bc xs)) (hBw : B ≤ w.heap.size) (hs : Src B w a len cap zs) (hlen : len ≤ 65536) (hlim : n ≤ 1000000) :
    Calls Yba.prog 6 #[sv, .int .u32 id, .slice a len cap] w fun e w' => ∃ g c, e = .returned (.slice (some ⟨g, 0, none⟩) (n + 12 + len) c) ∧ w'.ownsRow B 5 1 (.slice (some ⟨g, 0, none⟩) (n + 12 + len) c) (n + 12 + len) (bc (xs ++ record id zs)) ∧ Below B w w' := by
  refine (rec_any B n id hid.1 hid.2 sv xs a len cap zs w hown hBw hs hlen hlim).mono ?_
  rintro e w' ⟨v', rfl, ho, hb⟩
  obtain ⟨_, g, c, hv, _⟩ := own_some ho (by omega)
  subst hv
  exact ⟨g, c, rfl, ho, hb⟩

set_option maxHeartbeats 2000000 in
theorem walk_do (id1 : Int) (a1 : Option Addr) (len1 cap1 : Nat) (z1 : List Int) (id2 : Int) (a3 : Option Addr) (len3 cap3 : Nat) (z3 : List Int) (w : World) (hi1 : 0 ≤ id1 ∧ id1 < 4294967296) (hi2 : 0 ≤ id2 ∧ id2 < 4294967296)
    (s1 : Src w.heap.size w a1 len1 cap1 z1) (s3 : Src w.heap.size w a3 len3 cap3 z3) (hl1 : len1 ≤ 65536) (hl3 : len3 ≤ 65536) :
    Calls Yba.prog 4 #[.int .u32 id1, .slice a1 len1 cap1, .int .u32 id2, .slice a3 len3 cap3] w fun e w' => e = .returned (.bool true) ∧ Below w.heap.size w w' := by
  obtain ⟨i0, hi, hz0, hz1, hz2⟩ := info_parts Yba.info5
  have hd1 : ¬ (65536 : Int) < (len1 : Int) := by omega
  have hd3 : ¬ (65536 : Int) < (len3 : Int) := by omega
  go_enter Yba.func4, Yba.ntmps4
  go_wp2_with fail
  refine (rec_at w.heap.size 0 id1 hi1 _ [] a1 len1 cap1 z1 _ (World.ownsRow_nil _ _ _ _) (Nat.le_refl _) s1 hl1 (by omega)).mono ?_
  rintro e w1 ⟨g1, c1, rfl, ho1, hb1⟩
  go_wp2_with fail
  refine (rec_at w.heap.size (0 + 12 + len1) id2 hi2 _ _ a3 len3 cap3 z3 _ ho1 (by have := hb1.size; omega) (s3.below hb1) hl3 (by omega)).mono ?_
  rintro e w2 ⟨g2, c2, rfl, ho2, hb2⟩
  go_wp2_with fail
  have hB2 : w.heap.size ≤ w2.heap.size := by have := hb1.size; have := hb2.size; omega
  have hb12 := hb1.trans hb2
  have t1 := s1.below hb12
  have t3 := s3.below hb12
  refine (rec_at w2.heap.size 0 id1 hi1 _ [] a1 len1 cap1 z1 _ (World.ownsRow_nil _ _ _ _) (Nat.le_refl _) (t1.mono hB2) hl1 (by omega)).mono ?_
  rintro e w3 ⟨g3, c3, rfl, ho3, hb3⟩
  have hB3 : w2.heap.size ≤ w3.heap.size := hb3.size
  have hb13 := hb12.trans (hb3.mono hB2)
  have r3 := t3.below (hb3.mono hB2)
  go_wp2_with fail
  refine (rec_at w3.heap.size 0 id2 hi2 _ [] a3 len3 cap3 z3 _ (World.ownsRow_nil _ _ _ _) (Nat.le_refl _) (r3.mono (by omega)) hl3 (by omega)).mono ?_
  rintro e w4 ⟨g4, c4, rfl, ho4, hb4⟩
  have hB4 : w3.heap.size ≤ w4.heap.size := hb4.size
  have hb14 := hb13.trans (hb4.mono (by omega))
  have p2 := own_below (own_below ho2 hb3) hb4
  have p3 := own_below ho3 hb4
  clear ho1 ho2 ho3 hb1 hb2 hb3 hb4 hb12 hb13 t1 t3 r3 s1 s3
  go_wp2_with (first
    | (at_make; refine wpList_make_own _ rfl _ _ 22 rfl w4.heap.size 5 i0 (.int .u8 0) 1 Yba.underlying22 hi hz0 hz1 .i64 .i64 _ (24 + len1 + len3) rfl rfl (by omega) (by rw [hz2]; omega) (by unfold maxLen; omega) (Nat.le_refl _) ?_; intro w5 ho5 hg5; have hb5 : Below w4.heap.size w4 w5 := (Below.refl _ _).grown hg5 (Nat.le_refl _) (fun k hk => by cases hk); clear hg5)
    | (at_builtin; refine wpList_append_own _ rfl (.tmp 54) (.tmp 55) 22 rfl w4.heap.size 5 i0 (.int .u8 0) 1 1 Yba.underlying22 hi hz0 hz1 hz2 rfl (by decide) _ _ _ rfl ho5 ⟨g3, 0, none⟩ _ _ (bc ([] ++ record id1 z1)) rfl (own_below p3 hb5).1 ((own_below p3 hb5).cells rfl) (bc_one _) (by unfold maxLen; omega) (by omega) hb5.size ?_; intro v6 w6 ho6 hg6 _; have hb6 : Below w4.heap.size w4 w6 := hb5.grown hg6 hb5.size (fun k hk => (ho5.lt k hk).1); clear hb5 ho5 hg6)
    | (at_builtin; refine wpList_append_own _ rfl (.tmp 57) (.tmp 58) 22 rfl w4.heap.size 5 i0 (.int .u8 0) 1 1 Yba.underlying22 hi hz0 hz1 hz2 rfl (by decide) _ _ _ rfl ho6 ⟨g4, 0, none⟩ _ _ (bc ([] ++ record id2 z3)) rfl (own_below ho4 hb6).1 ((own_below ho4 hb6).cells rfl) (bc_one _) (by unfold maxLen; omega) (by omega) hb6.size ?_; intro v7 w7 ho7 hg7 _; have hb7 : Below w4.heap.size w4 w7 := hb6.grown hg7 hb6.size (fun k hk => (ho6.lt k hk).1); clear hb6 ho6 hg7))
  have f2 : w7.ownsRow w.heap.size 5 1 (.slice (some ⟨g2, 0, none⟩) (12 + len1 + 12 + len3) c2) (12 + len1 + 12 + len3) (bc (record id1 z1 ++ record id2 z3)) := by
    have q := own_below p2 hb7
    rw [Nat.zero_add, List.nil_append] at q
    exact q
  have f7 : w7.ownsRow w4.heap.size 5 1 v7 (12 + len1 + 12 + len3) (bc (record id1 z1 ++ record id2 z3)) := by
    rw [List.nil_append, List.nil_append, List.nil_append, ← bc_append, show 0 + (12 + len1) + (12 + len3) = 12 + len1 + 12 + len3 from by omega] at ho7
    exact ho7
  refine (equal_same w.heap.size w4.heap.size (12 + len1 + 12 + len3) _ v7 _ w7 (by omega) f2 f7).mono ?_
  rintro e w8 ⟨rfl, rfl⟩
  go_wp2
  go_ret
  exact ⟨rfl, hb14.trans (hb7.mono (by omega))⟩

theorem walk (a0 : Int) (a1 : Option Addr) (len1 cap1 : Nat) (z1 : List Int) (a2 : Int) (a3 : Option Addr) (len3 cap3 : Nat) (z3 : List Int) (w : World) (w0 : (Lit.int .u32 a0).wf = true) (w1 : IsRow .u8 w a1 len1 cap1 z1) (w2 : (Lit.int .u32 a2).wf = true) (w3 : IsRow .u8 w a3 len3 cap3 z3) :
    Calls Yba.prog 4 #[.int .u32 a0, .slice a1 len1 cap1, .int .u32 a2, .slice a3 len3 cap3] w fun e w' => e = .returned (.bool true) ∧ Below w.heap.size w w' := by
  by_cases h1 : len1 ≤ 65536
  · by_cases h3 : len3 ≤ 65536
    · exact walk_do a0 a1 len1 cap1 _ a2 a3 len3 cap3 _ w (u32_bd w0) (u32_bd w2) (src_of w1) (src_of w3) h1 h3
    · have hd1 : ¬ (65536 : Int) < (len1 : Int) := by omega
      have hd3 : (65536 : Int) < (len3 : Int) := by omega
      go_enter Yba.func4, Yba.ntmps4
      go_wp2
      go_ret
      exact ⟨rfl, Below.refl _ _⟩
  · have hd1 : (65536 : Int) < (len1 : Int) := by omega
    go_enter Yba.func4, Yba.ntmps4
    go_wp2
    go_ret
    exact ⟨rfl, Below.refl _ _⟩

/-! ### THE ROW's STEP: WRITTEN OUT: LEAVE IT -/
set_option maxRecDepth 100000 in
theorem lifted (os : Os) (started : os.Started) (H : Type) (enc : TypeId × Value → H) :
    ReturnsInHanded {} Yba.checked os 4 .any (Rows.lawS1432CConcatSpec.pre6 enc Yba.prog Yba.f4 Rows.lawS1432CConcatRow.domain false) (Rows.lawS1432CConcatSpec.post enc Yba.prog Yba.f4 false true false false) := by
  refine returnsInHanded_of_change (C := Yba.checked) own started (by kernel_rfl) Yba.func4
    (ChangeSpec.witness6 (enc := enc) (C := Yba.checked) false ⟨#[], #[.int .u32 0, .slice none 0 0, .int .u32 0, .slice none 0 0], []⟩ 8 (by kernel_rfl) (by kernel_rfl) (by kernel_rfl) (by kernel_rfl)) ?_
  intro W base args ds gs before hval0 hW hcnd _
  have hval : ∀ (j : Nat) t v, Yba.f4.params[j]? = some t → args[j]? = some v → Value.okWide Yba.prog W .any base t v := hval0
  have hW' := hW
  obtain ⟨p, q, hA0, hV, rfl, hfz, hnd⟩ := hW
  have hA : DataW.TrodAll enc Yba.prog W 0 (fun _ => true) true Yba.f4.params.toList args.toList ds p := hA0
  rw [Yba.params4] at hA hval
  obtain ⟨v0, vs0, d0, ds0, p0, q0, hargs, rfl, rfl, h0, r0⟩ := trodAll_cons hA
  obtain ⟨v1, vs1, d1, ds1, p1, q1, rfl, rfl, rfl, h1, r1⟩ := trodAll_cons r0
  obtain ⟨v2, vs2, d2, ds2, p2, q2, rfl, rfl, rfl, h2, r2⟩ := trodAll_cons r1
  obtain ⟨v3, vs3, d3, ds3, p3, q3, rfl, rfl, rfl, h3, r3⟩ := trodAll_cons r2
  obtain ⟨rfl, rfl, rfl⟩ := trodAll_nil r3
  obtain rfl : args = #[v0, v1, v2, v3] := by cases args; simp_all
  obtain ⟨rfl, rfl⟩ := trodVars_none hV
  obtain ⟨a0, rfl, rfl, rfl, w0⟩ := open_int Yba.underlying23 (hval 0 23 v0 rfl rfl) h0
  obtain ⟨a1, len1, cap1, rfl⟩ := okWide_slice Yba.underlying22 (hval 1 22 v1 rfl rfl)
  have k1 := h1
  have lt1 : ∀ x ∈ p1, x.block < W.heap.size := by obtain ⟨m, hm⟩ := k1; exact DataW.trod_lt m _ _ _ hm
  obtain ⟨z1, w1⟩ : ∃ zs, IsRow .u8 W a1 len1 cap1 zs := by
    obtain ⟨fuel, hf⟩ := h1
    rcases open_ints Yba.underlying22 Yba.underlying5 (by kernel_rfl) hf with ⟨hcs, _⟩ | ⟨x, l, c, zs, hcs, _, hl, hm, hz, _, hcell, hwz⟩
    · simp [Value.cells] at hcs
      obtain ⟨rfl, rfl, rfl⟩ := hcs
      exact ⟨[], .inl ⟨rfl, rfl, rfl, rfl⟩⟩
    · simp [Value.cells] at hcs
      obtain ⟨rfl, rfl, rfl⟩ := hcs
      exact ⟨zs, .inr ⟨_, rfl, hl, hm, by simpa using hz, hcell, hwz⟩⟩
  obtain ⟨a2, rfl, rfl, rfl, w2⟩ := open_int Yba.underlying23 (hval 2 23 v2 rfl rfl) h2
  obtain ⟨a3, len3, cap3, rfl⟩ := okWide_slice Yba.underlying22 (hval 3 22 v3 rfl rfl)
  have k3 := h3
  have lt3 : ∀ x ∈ p3, x.block < W.heap.size := by obtain ⟨m, hm⟩ := k3; exact DataW.trod_lt m _ _ _ hm
  obtain ⟨z3, w3⟩ : ∃ zs, IsRow .u8 W a3 len3 cap3 zs := by
    obtain ⟨fuel, hf⟩ := h3
    rcases open_ints Yba.underlying22 Yba.underlying5 (by kernel_rfl) hf with ⟨hcs, _⟩ | ⟨x, l, c, zs, hcs, _, hl, hm, hz, _, hcell, hwz⟩
    · simp [Value.cells] at hcs
      obtain ⟨rfl, rfl, rfl⟩ := hcs
      exact ⟨[], .inl ⟨rfl, rfl, rfl, rfl⟩⟩
    · simp [Value.cells] at hcs
      obtain ⟨rfl, rfl, rfl⟩ := hcs
      exact ⟨zs, .inr ⟨_, rfl, hl, hm, by simpa using hz, hcell, hwz⟩⟩
  clear hA0 hval0
  refine (walk a0 a1 len1 cap1 z1 a2 a3 len3 cap3 z3 W w0 w1 w2 w3).mono fun e W' ⟨he, bel⟩ => ?_
  subst he
  exact ⟨_, rfl, _, _, _, [], _, [], hW', trodAll_mk1 (shut_bool Yba.underlying4 _), (trodAll_cons_mk (shut_int Yba.underlying23 w0) (trodAll_cons_mk (Below.trod laidOut (by kernel_rfl) (of_decide_eq_true (by kernel_rfl)) k1 bel lt1) (trodAll_cons_mk (shut_int Yba.underlying23 w2) (trodAll_cons_mk (Below.trod laidOut (by kernel_rfl) (of_decide_eq_true (by kernel_rfl)) k3 bel lt3) trodAll_mk0)))), rfl, bel.frame _, fun h => by cases h⟩

theorem over : Rows.lawS1432CConcatRow.holds Yba.pinned (OpenSpec.ofChange Rows.lawS1432CConcatSpec) :=
  OpenClaim.holds_of_wide 4 Yba.f4 rfl rfl rfl rfl rfl rfl rfl ⟨rfl, rfl, rfl, rfl, rfl⟩ rfl rfl rfl rfl rfl (by kernel_rfl) Yba.func4 (by kernel_rfl)
    (of_decide_eq_true (by kernel_rfl)) (by unfold Func.isWrapper; first | (rw [if_pos (by decide +kernel)]; kernel_rfl) | (rw [if_neg (by decide +kernel)]; exact ⟨rfl, rfl⟩))
    (fun os started H enc _ => lifted os started H enc)

/-- ████ THE STATEMENT ████ -/
theorem proved : Rows.LawS1432CConcatSaid := over
#print axioms proved
end Go.Proofs.Ybulkacqc.lawS1432CConcat
