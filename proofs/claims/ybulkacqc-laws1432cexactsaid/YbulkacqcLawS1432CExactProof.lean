/-
  The proof of 'Rows.LawS1432CExactSaid': the frame as the skeleton tool wrote it for this function, the walk filled in by hand.
-/
import Derived.Test.YbulkacqcRows
import Derived.Test.YbulkacqcClone
import Derived.WalkKit
import Derived.ProofKit
import Derived.OpenShut
import Derived.ShutString
import Derived.ChangeOld
import Derived.Below
namespace Go.Proofs.Ybulkacqc.lawS1432CExact
open Go.ChangeShapes Go.WideShapes Go.ChangeAt Go.RowKit
open Go.ChangeMaps (open_string shut_string)
set_option linter.unusedVariables false

theorem own : ownKnob Yba.prog.godebug = none := by kernel_rfl
theorem laidOut : laidOutB Yba.prog = true := by kernel_rfl

/-- WHAT THE WALK IS TOLD OF A SLICE OF INTEGERS THAT CAME IN: it is nil; or it leads to a row of 'cap' cells, the numbers 'zs' (the first 'len' are its elements, the rest its spare room), each fitting its kind. -/
def IsRow (k : IntKind) (w : World) (a : Option Addr) (len cap : Nat) (zs : List Int) : Prop :=
  (a = none ∧ len = 0 ∧ cap = 0 ∧ zs = []) ∨
  ∃ x, a = some x ∧ len ≤ cap ∧ cap ≤ maxLen ∧ zs.length = cap ∧ (∀ i, i < zs.length → w.cell? (x.add i) = some (.int k (zs.getD i 0))) ∧ ∀ n ∈ zs, (Lit.int k n).wf = true

/-! ### STEP 1: THE WALK -/
theorem src_of {w : World} {a : Option Addr} {len cap : Nat} {zs : List Int} (h : IsRow .u8 w a len cap zs) : Src w.heap.size w a len cap (zs.take len) := by
  rcases h with ⟨rfl, rfl, rfl, rfl⟩ | ⟨x, rfl, hl, hm, hz, hc, _⟩
  · exact ⟨rfl, fun _ => ⟨rfl, rfl⟩, fun x hx => by cases hx⟩
  · refine ⟨by rw [List.length_take]; omega, fun h => (by cases h), fun y hy j u hu => ?_⟩
    cases hy
    have hj : j < len := by
      have := (List.getElem?_eq_some_iff.1 hu).1
      rw [bc_length, List.length_take] at this
      omega
    have hu' : u = .int .u8 (zs.getD j 0) := by
      simp only [bc, List.getElem?_map, List.getElem?_take, if_pos hj, List.getElem?_eq_getElem (show j < zs.length by omega), Option.map_some, Option.some.injEq] at hu
      rw [← hu]
      simp [List.getD, List.getElem?_eq_getElem (show j < zs.length by omega)]
    have hcell := hc j (by omega)
    refine ⟨by rw [hu']; exact hcell, ?_⟩
    have := World.block_lt_of_cell? w _ hcell
    rwa [add_block] at this

theorem own_below {w w' : World} {B n : Nat} {v : Value} {xs : List Value} (h : w.ownsRow B 5 1 v n xs) (hb : Below w.heap.size w w') : w'.ownsRow B 5 1 v n xs := by
  refine ⟨h.1, ?_⟩
  rcases h.2 with hn | ⟨g, cap, cur, rfl, hB, hg, r⟩
  · exact Or.inl hn
  · exact Or.inr ⟨g, cap, cur, rfl, hB, by rw [hb.block g (Array.getElem?_eq_some_iff.1 hg).1]; exact hg, r⟩

theorem u32_bd {a : Int} (h : (Lit.int .u32 a).wf = true) : 0 ≤ a ∧ a < 4294967296 := by
  have := bounds_u32 h
  omega

/-- appendRecord, its result at an address. -/
theorem rec_at (B n : Nat) (id : Int) (hid : 0 ≤ id ∧ id < 4294967296) (sv : Value) (xs : List Int) (a : Option Addr) (len cap : Nat) (zs : List Int) (w : World)
    (hown : w.ownsRow B 5 1 sv n (bc xs)) (hBw : B ≤ w.heap.size) (hs : Src B w a len cap zs) (hlen : len ≤ 65536) (hlim : n ≤ 1000000) :
    Calls Yba.prog 6 #[sv, .int .u32 id, .slice a len cap] w fun e w' => ∃ g c, e = .returned (.slice (some ⟨g, 0, none⟩) (n + 12 + len) c) ∧ w'.ownsRow B 5 1 (.slice (some ⟨g, 0, none⟩) (n + 12 + len) c) (n + 12 + len) (bc (xs ++ record id zs)) ∧ Below B w w' := by
  refine (rec_any B n id hid.1 hid.2 sv xs a len cap zs w hown hBw hs hlen hlim).mono ?_
  rintro e w' ⟨v', rfl, ho, hb⟩
  obtain ⟨_, g, c, hv, _⟩ := own_some ho (by omega)
  subst hv
  exact ⟨g, c, rfl, ho, hb⟩

set_option maxHeartbeats 2000000 in
theorem walk_do (a0 : Option Addr) (len0 cap0 : Nat) (z0 : List Int) (id : Int) (a2 : Option Addr) (len2 cap2 : Nat) (z2 : List Int) (w : World) (hid : 0 ≤ id ∧ id < 4294967296)
    (s0 : Src w.heap.size w a0 len0 cap0 z0) (s2 : Src w.heap.size w a2 len2 cap2 z2) (hl0 : len0 ≤ 65536) (hl2 : len2 ≤ 65536) :
    Calls Yba.prog 3 #[.slice a0 len0 cap0, .int .u32 id, .slice a2 len2 cap2] w fun e w' => e = .returned (.bool true) ∧ Below w.heap.size w w' := by
  obtain ⟨i0, hi, hz0, hz1, hz2⟩ := info_parts Yba.info5
  have hd0 : ¬ (65536 : Int) < (len0 : Int) := by omega
  have hd2 : ¬ (65536 : Int) < (len2 : Int) := by omega
  go_enter Yba.func3, Yba.ntmps3
  go_wp2_with fail
  refine (clone_any a0 len0 cap0 z0 _ s0 hl0).mono ?_
  rintro e w1 ⟨v1, rfl, ho1, hb1⟩
  go_wp2_with fail
  refine (rec_at w.heap.size len0 id hid v1 z0 a2 len2 cap2 z2 _ ho1 hb1.size (s2.below hb1) hl2 (by omega)).mono ?_
  rintro e w2 ⟨g2, c2, rfl, ho2, hb2⟩
  have hb12 := hb1.trans hb2
  have t0 := (s0.below hb12).mono hb12.size
  have t2 := (s2.below hb12).mono hb12.size
  clear ho1 s0 s2 hb1 hb2
  go_wp2_with (first
    | (at_make; refine wpList_make_own _ rfl _ _ 22 rfl w2.heap.size 5 i0 (.int .u8 0) 1 Yba.underlying22 hi hz0 hz1 .i64 .i64 _ (len0 + 12 + len2) rfl rfl (by omega) (by rw [hz2]; omega) (by unfold maxLen; omega) (Nat.le_refl _) ?_; intro w3 ho3 hg3; have hb3 : Below w2.heap.size w2 w3 := (Below.refl _ _).grown hg3 (Nat.le_refl _) (fun k hk => by cases hk); clear hg3)
    | (at_builtin; refine wpList_append_src _ rfl (.tmp 31) (.tmp 32) 22 rfl w2.heap.size 5 i0 (.int .u8 0) 1 1 Yba.underlying22 hi hz0 hz1 hz2 rfl (by decide) _ _ _ rfl ho3 a0 len0 cap0 (bc z0) rfl (src_len t0) t0.nil (src_cell (t0.below hb3)) (bc_one _) (by unfold maxLen; omega) (by omega) hb3.size ?_; intro v4 w4 ho4 hg4; have hb4 : Below w2.heap.size w2 w4 := hb3.grown hg4 hb3.size (fun k hk => (ho3.lt k hk).1); clear hb3 ho3 hg4))
  rw [Nat.zero_add, List.nil_append] at ho4
  have hs4 := hb4.size
  refine (put_any w2.heap.size len0 id hid.1 hid.2 v4 z0 w4 ho4 hs4 (by omega)).mono ?_
  rintro e w5 ⟨v5, rfl, ho5, hb5⟩
  have hs5 := hb5.size
  go_wp2_with fail
  refine (put_any w2.heap.size (len0 + 4) 1 (by decide) (by decide) v5 _ w5 ho5 (by omega) (by omega)).mono ?_
  rintro e w6 ⟨v6, rfl, ho6, hb6⟩
  have hs6 := hb6.size
  go_wp2_with fail
  refine (put_any w2.heap.size (len0 + 4 + 4) len2 (by omega) (by omega) v6 _ w6 ho6 (by omega) (by omega)).mono ?_
  rintro e w7 ⟨v7, rfl, ho7, hb7⟩
  have hb27 := ((hb4.trans hb5).trans hb6).trans hb7
  have r2 := t2.below hb27
  clear ho4 ho5 ho6 hb4 hb5 hb6 hb7 t0 t2
  go_wp2_with (at_builtin; refine wpList_append_src _ rfl (.tmp 44) (.tmp 45) 22 rfl w2.heap.size 5 i0 (.int .u8 0) 1 1 Yba.underlying22 hi hz0 hz1 hz2 rfl (by decide) _ _ _ rfl ho7 a2 len2 cap2 (bc z2) rfl (src_len r2) r2.nil (src_cell r2) (bc_one _) (by unfold maxLen; omega) (by omega) hb27.size ?_; intro v8 w8 ho8 hg8; have hb28 : Below w2.heap.size w2 w8 := hb27.grown hg8 hb27.size (fun k hk => (ho7.lt k hk).1); clear hg8)
  have f8 : w8.ownsRow w2.heap.size 5 1 v8 (len0 + 12 + len2) (bc (z0 ++ record id z2)) := by
    refine rec_row r2.length ?_
    simpa using ho8
  refine (equal_same w.heap.size w2.heap.size (len0 + 12 + len2) _ v8 _ w8 (by omega) (own_below ho2 hb28) f8).mono ?_
  rintro e w9 ⟨rfl, rfl⟩
  go_wp2
  go_ret
  exact ⟨rfl, hb12.trans (hb28.mono hb12.size)⟩

theorem walk (a0 : Option Addr) (len0 cap0 : Nat) (z0 : List Int) (a1 : Int) (a2 : Option Addr) (len2 cap2 : Nat) (z2 : List Int) (w : World) (w0 : IsRow .u8 w a0 len0 cap0 z0) (w1 : (Lit.int .u32 a1).wf = true) (w2 : IsRow .u8 w a2 len2 cap2 z2) :
    Calls Yba.prog 3 #[.slice a0 len0 cap0, .int .u32 a1, .slice a2 len2 cap2] w fun e w' => e = .returned (.bool true) ∧ Below w.heap.size w w' := by
  by_cases h0 : len0 ≤ 65536
  · by_cases h2 : len2 ≤ 65536
    · exact walk_do a0 len0 cap0 _ a1 a2 len2 cap2 _ w (u32_bd w1) (src_of w0) (src_of w2) h0 h2
    · have hd0 : ¬ (65536 : Int) < (len0 : Int) := by omega
      have hd2 : (65536 : Int) < (len2 : Int) := by omega
      go_enter Yba.func3, Yba.ntmps3
      go_wp2
      go_ret
      exact ⟨rfl, Below.refl _ _⟩
  · have hd0 : (65536 : Int) < (len0 : Int) := by omega
    go_enter Yba.func3, Yba.ntmps3
    go_wp2
    go_ret
    exact ⟨rfl, Below.refl _ _⟩

/-! ### THE ROW's STEP: WRITTEN OUT: LEAVE IT -/
set_option maxRecDepth 100000 in
theorem lifted (os : Os) (started : os.Started) (H : Type) (enc : TypeId × Value → H) :
    ReturnsInHanded {} Yba.checked os 3 .any (Rows.lawS1432CExactSpec.pre6 enc Yba.prog Yba.f3 Rows.lawS1432CExactRow.domain false) (Rows.lawS1432CExactSpec.post enc Yba.prog Yba.f3 false true false false) := by
  refine returnsInHanded_of_change (C := Yba.checked) own started (by kernel_rfl) Yba.func3
    (ChangeSpec.witness6 (enc := enc) (C := Yba.checked) false ⟨#[], #[.slice none 0 0, .int .u32 0, .slice none 0 0], []⟩ 8 (by kernel_rfl) (by kernel_rfl) (by kernel_rfl) (by kernel_rfl)) ?_
  intro W base args ds gs before hval0 hW hcnd _
  have hval : ∀ (j : Nat) t v, Yba.f3.params[j]? = some t → args[j]? = some v → Value.okWide Yba.prog W .any base t v := hval0
  have hW' := hW
  obtain ⟨p, q, hA0, hV, rfl, hfz, hnd⟩ := hW
  have hA : DataW.TrodAll enc Yba.prog W 0 (fun _ => true) true Yba.f3.params.toList args.toList ds p := hA0
  rw [Yba.params3] at hA hval
  obtain ⟨v0, vs0, d0, ds0, p0, q0, hargs, rfl, rfl, h0, r0⟩ := trodAll_cons hA
  obtain ⟨v1, vs1, d1, ds1, p1, q1, rfl, rfl, rfl, h1, r1⟩ := trodAll_cons r0
  obtain ⟨v2, vs2, d2, ds2, p2, q2, rfl, rfl, rfl, h2, r2⟩ := trodAll_cons r1
  obtain ⟨rfl, rfl, rfl⟩ := trodAll_nil r2
  obtain rfl : args = #[v0, v1, v2] := by cases args; simp_all
  obtain ⟨rfl, rfl⟩ := trodVars_none hV
  obtain ⟨a0, len0, cap0, rfl⟩ := okWide_slice Yba.underlying22 (hval 0 22 v0 rfl rfl)
  have k0 := h0
  have lt0 : ∀ x ∈ p0, x.block < W.heap.size := by obtain ⟨m, hm⟩ := k0; exact DataW.trod_lt m _ _ _ hm
  obtain ⟨z0, w0⟩ : ∃ zs, IsRow .u8 W a0 len0 cap0 zs := by
    obtain ⟨fuel, hf⟩ := h0
    rcases open_ints Yba.underlying22 Yba.underlying5 (by kernel_rfl) hf with ⟨hcs, _⟩ | ⟨x, l, c, zs, hcs, _, hl, hm, hz, _, hcell, hwz⟩
    · simp [Value.cells] at hcs
      obtain ⟨rfl, rfl, rfl⟩ := hcs
      exact ⟨[], .inl ⟨rfl, rfl, rfl, rfl⟩⟩
    · simp [Value.cells] at hcs
      obtain ⟨rfl, rfl, rfl⟩ := hcs
      exact ⟨zs, .inr ⟨_, rfl, hl, hm, by simpa using hz, hcell, hwz⟩⟩
  obtain ⟨a1, rfl, rfl, rfl, w1⟩ := open_int Yba.underlying23 (hval 1 23 v1 rfl rfl) h1
  obtain ⟨a2, len2, cap2, rfl⟩ := okWide_slice Yba.underlying22 (hval 2 22 v2 rfl rfl)
  have k2 := h2
  have lt2 : ∀ x ∈ p2, x.block < W.heap.size := by obtain ⟨m, hm⟩ := k2; exact DataW.trod_lt m _ _ _ hm
  obtain ⟨z2, w2⟩ : ∃ zs, IsRow .u8 W a2 len2 cap2 zs := by
    obtain ⟨fuel, hf⟩ := h2
    rcases open_ints Yba.underlying22 Yba.underlying5 (by kernel_rfl) hf with ⟨hcs, _⟩ | ⟨x, l, c, zs, hcs, _, hl, hm, hz, _, hcell, hwz⟩
    · simp [Value.cells] at hcs
      obtain ⟨rfl, rfl, rfl⟩ := hcs
      exact ⟨[], .inl ⟨rfl, rfl, rfl, rfl⟩⟩
    · simp [Value.cells] at hcs
      obtain ⟨rfl, rfl, rfl⟩ := hcs
      exact ⟨zs, .inr ⟨_, rfl, hl, hm, by simpa using hz, hcell, hwz⟩⟩
  clear hA0 hval0
  refine (walk a0 len0 cap0 z0 a1 a2 len2 cap2 z2 W w0 w1 w2).mono fun e W' ⟨he, bel⟩ => ?_
  subst he
  exact ⟨_, rfl, _, _, _, [], _, [], hW', trodAll_mk1 (shut_bool Yba.underlying4 _), (trodAll_cons_mk (Below.trod laidOut (by kernel_rfl) (of_decide_eq_true (by kernel_rfl)) k0 bel lt0) (trodAll_cons_mk (shut_int Yba.underlying23 w1) (trodAll_cons_mk (Below.trod laidOut (by kernel_rfl) (of_decide_eq_true (by kernel_rfl)) k2 bel lt2) trodAll_mk0))), rfl, bel.frame _, fun h => by cases h⟩

theorem over : Rows.lawS1432CExactRow.holds Yba.pinned (OpenSpec.ofChange Rows.lawS1432CExactSpec) :=
  OpenClaim.holds_of_wide 3 Yba.f3 rfl rfl rfl rfl rfl rfl rfl ⟨rfl, rfl, rfl, rfl, rfl⟩ rfl rfl rfl rfl rfl (by kernel_rfl) Yba.func3 (by kernel_rfl)
    (of_decide_eq_true (by kernel_rfl)) (by unfold Func.isWrapper; first | (rw [if_pos (by decide +kernel)]; kernel_rfl) | (rw [if_neg (by decide +kernel)]; exact ⟨rfl, rfl⟩))
    (fun os started H enc _ => lifted os started H enc)

/-- ████ THE STATEMENT ████ -/
theorem proved : Rows.LawS1432CExactSaid := over
#print axioms proved
end Go.Proofs.Ybulkacqc.lawS1432CExact
