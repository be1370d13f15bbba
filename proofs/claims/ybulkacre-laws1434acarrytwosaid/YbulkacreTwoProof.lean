/-
  The row's step for 'Rows.LawS1434ACarryTwoSaid'.
-/
import Derived.Test.YbulkacreRows
import Derived.Test.YbulkacreInput
import Derived.Test.YbulkacreTwoDiff
namespace Go.Proofs.Ybulkacre
open Go.ChangeShapes Go.WideShapes Go.ChangeAt Go.RowKit
open Go.ChangeMaps (open_string shut_string)
set_option linter.unusedVariables false

theorem in_of {w : World} {a : Option Addr} {len : Nat} (h : Came w a len) : ∃ ps, In w.heap.size w a len ps := by
  rcases h with rfl | ⟨b, off, ps, rfl, rfl, hp⟩
  · exact ⟨[], rfl, Or.inl rfl⟩
  · exact ⟨ps, rfl, Or.inr ⟨b, off, rfl, hp⟩⟩

set_option maxHeartbeats 1000000 in
set_option maxRecDepth 100000 in
theorem two_long1 (t1 : ByteArray) (s1 : Int) (a1 : Option Addr) (len1 cap1 : Nat) (t2 : ByteArray) (s2 : Int) (a2 : Option Addr) (len2 cap2 : Nat) (w : World) (h : 1024 < len1) :
    Calls Yba.prog 4 #[.string t1, .int .i64 s1, .slice a1 len1 cap1, .string t2, .int .i64 s2, .slice a2 len2 cap2] w fun e w' => e = .returned (.bool true) ∧ Below w.heap.size w w' := by
  have hd : (1024 : Int) < (len1 : Int) := by omega
  go_enter Yba.func4, Yba.ntmps4
  go_wp2
  go_ret
  exact ⟨rfl, Below.refl _ _⟩

set_option maxHeartbeats 1000000 in
set_option maxRecDepth 100000 in
theorem two_long2 (t1 : ByteArray) (s1 : Int) (a1 : Option Addr) (len1 cap1 : Nat) (t2 : ByteArray) (s2 : Int) (a2 : Option Addr) (len2 cap2 : Nat) (w : World) (h1 : len1 ≤ 1024) (h : 1024 < len2) :
    Calls Yba.prog 4 #[.string t1, .int .i64 s1, .slice a1 len1 cap1, .string t2, .int .i64 s2, .slice a2 len2 cap2] w fun e w' => e = .returned (.bool true) ∧ Below w.heap.size w w' := by
  have hd1 : ¬ (1024 : Int) < (len1 : Int) := by omega
  have hd : (1024 : Int) < (len2 : Int) := by omega
  go_enter Yba.func4, Yba.ntmps4
  go_wp2
  go_ret
  exact ⟨rfl, Below.refl _ _⟩

theorem two_walk (t1 : ByteArray) (s1 : Int) (a1 : Option Addr) (len1 cap1 : Nat) (t2 : ByteArray) (s2 : Int) (a2 : Option Addr) (len2 cap2 : Nat) (w : World) (h1 : Came w a1 len1) (h2 : Came w a2 len2) :
    Calls Yba.prog 4 #[.string t1, .int .i64 s1, .slice a1 len1 cap1, .string t2, .int .i64 s2, .slice a2 len2 cap2] w fun e w' => e = .returned (.bool true) ∧ Below w.heap.size w w' := by
  by_cases hl1 : len1 ≤ 1024
  · by_cases hl2 : len2 ≤ 1024
    · obtain ⟨ps1, i1⟩ := in_of h1
      obtain ⟨ps2, i2⟩ := in_of h2
      obtain rfl := i1.1
      obtain rfl := i2.1
      by_cases hk : t1 = t2 ∧ s1 = s2
      · obtain ⟨rfl, rfl⟩ := hk
        exact two_same t1 s1 a1 cap1 ps1 a2 cap2 ps2 w i1 i2 hl1 hl2
      · exact two_diff t1 s1 a1 cap1 ps1 t2 s2 a2 cap2 ps2 w hk i1 i2 hl1 hl2
    · exact two_long2 t1 s1 a1 len1 cap1 t2 s2 a2 len2 cap2 w hl1 (by omega)
  · exact two_long1 t1 s1 a1 len1 cap1 t2 s2 a2 len2 cap2 w (by omega)

set_option maxRecDepth 100000 in
theorem two_lifted (os : Os) (started : os.Started) (H : Type) (enc : TypeId × Value → H) :
    ReturnsInHanded {} Yba.checked os 4 .any (Rows.lawS1434ACarryTwoSpec.pre6 enc Yba.prog Yba.f4 Rows.lawS1434ACarryTwoRow.domain false) (Rows.lawS1434ACarryTwoSpec.post enc Yba.prog Yba.f4 false true false false) := by
  refine returnsInHanded_of_change (C := Yba.checked) own started (by kernel_rfl) Yba.func4
    (ChangeSpec.witness6 (enc := enc) (C := Yba.checked) false ⟨#[], #[.string ByteArray.empty, .int .i64 0, .slice none 0 0, .string ByteArray.empty, .int .i64 0, .slice none 0 0], []⟩ 8 (by kernel_rfl) (by kernel_rfl) (by kernel_rfl) (by kernel_rfl)) ?_
  intro W base args ds gs before hval0 hW hcnd _
  have hval : ∀ (j : Nat) t v, Yba.f4.params[j]? = some t → args[j]? = some v → Value.okWide Yba.prog W .any base t v := hval0
  have hW' := hW
  obtain ⟨p, q, hA0, hV, rfl, hfz, hnd⟩ := hW
  have hA : DataW.TrodAll enc Yba.prog W 0 (fun _ => true) true Yba.f4.params.toList args.toList ds p := hA0
  rw [Yba.params4] at hA hval
  obtain ⟨v0, vs0, d0, ds0, p0, q0, hargs, rfl, rfl, h0, r0⟩ := trodAll_cons hA
  obtain ⟨v1, vs1, d1, ds1, p1, q1, rfl, rfl, rfl, h1, r1⟩ := trodAll_cons r0
  obtain ⟨v2, vs2, d2, ds2, p2, q2, rfl, rfl, rfl, h2, r2⟩ := trodAll_cons r1
  obtain ⟨v3, vs3, d3, ds3, p3, q3, rfl, rfl, rfl, h3, r3⟩ := trodAll_cons r2
  obtain ⟨v4, vs4, d4, ds4, p4, q4, rfl, rfl, rfl, h4, r4⟩ := trodAll_cons r3
  obtain ⟨v5, vs5, d5, ds5, p5, q5, rfl, rfl, rfl, h5, r5⟩ := trodAll_cons r4
  obtain ⟨rfl, rfl, rfl⟩ := trodAll_nil r5
  obtain rfl : args = #[v0, v1, v2, v3, v4, v5] := by cases args; simp_all
  obtain ⟨rfl, rfl⟩ := trodVars_none hV
  obtain ⟨t1, rfl, rfl, rfl, wt1⟩ := open_string Yba.underlying9 (hval 0 9 v0 rfl rfl) h0
  obtain ⟨s1, rfl, rfl, rfl, ws1⟩ := open_int Yba.underlying3 (hval 1 3 v1 rfl rfl) h1
  obtain ⟨a1, len1, cap1, rfl⟩ := okWide_slice Yba.underlying22 (hval 2 22 v2 rfl rfl)
  have k2 := h2
  have lt2 : ∀ x ∈ p2, x.block < W.heap.size := by obtain ⟨m, hm⟩ := k2; exact DataW.trod_lt m _ _ _ hm
  obtain ⟨t2, rfl, rfl, rfl, wt2⟩ := open_string Yba.underlying9 (hval 3 9 v3 rfl rfl) h3
  obtain ⟨s2, rfl, rfl, rfl, ws2⟩ := open_int Yba.underlying3 (hval 4 3 v4 rfl rfl) h4
  obtain ⟨a2, len2, cap2, rfl⟩ := okWide_slice Yba.underlying22 (hval 5 22 v5 rfl rfl)
  have k5 := h5
  have lt5 : ∀ x ∈ p5, x.block < W.heap.size := by obtain ⟨m, hm⟩ := k5; exact DataW.trod_lt m _ _ _ hm
  clear hA0 hval0
  refine (two_walk t1 s1 a1 len1 cap1 t2 s2 a2 len2 cap2 W (came_of h2) (came_of h5)).mono fun e W' ⟨he, bel⟩ => ?_
  subst he
  exact ⟨_, rfl, _, _, _, [], _, [], hW', trodAll_mk1 (shut_bool Yba.underlying4 _), (trodAll_cons_mk (shut_string Yba.underlying9 wt1) (trodAll_cons_mk (shut_int Yba.underlying3 ws1) (trodAll_cons_mk (Below.trod laidOut (by kernel_rfl) (of_decide_eq_true (by kernel_rfl)) k2 bel lt2) (trodAll_cons_mk (shut_string Yba.underlying9 wt2) (trodAll_cons_mk (shut_int Yba.underlying3 ws2) (trodAll_cons_mk (Below.trod laidOut (by kernel_rfl) (of_decide_eq_true (by kernel_rfl)) k5 bel lt5) trodAll_mk0)))))), rfl, bel.frame _, fun h => by cases h⟩

theorem twoProved : Rows.LawS1434ACarryTwoSaid :=
  OpenClaim.holds_of_wide 4 Yba.f4 rfl rfl rfl rfl rfl rfl rfl ⟨rfl, rfl, rfl, rfl, rfl⟩ rfl rfl rfl rfl rfl (by kernel_rfl) Yba.func4 (by kernel_rfl)
    (of_decide_eq_true (by kernel_rfl)) (by unfold Func.isWrapper; first | (rw [if_pos (by decide +kernel)]; kernel_rfl) | (rw [if_neg (by decide +kernel)]; exact ⟨rfl, rfl⟩))
    (fun os started H enc _ => two_lifted os started H enc)
#print axioms twoProved
end Go.Proofs.Ybulkacre
