/-
  The proof of 'Rows.LawS1440CExactSaid': the frame as the skeleton tool wrote it for this function, the walk filled in by hand.
-/
import Derived.Test.YbulkacukRows
import Derived.Test.YbulkacukSecrecy
import Derived.WalkKit
import Derived.ProofKit
import Derived.OpenShut
import Derived.ShutString
import Derived.LaidEqlPtr
namespace Go.Proofs.Ybulkacuk.lawS1440CExact
open Go.ChangeShapes Go.WideShapes Go.ChangeAt Go.RowKit
open Go.ChangeMaps (open_string shut_string)
set_option linter.unusedVariables false      -- a walk need not use every 'w<i>' (that an integer argument fits its kind)

theorem own : ownKnob Yba.prog.godebug = none := by kernel_rfl

/-! ### STEP 1: THE WALK -/
set_option maxHeartbeats 1000000 in
theorem walk_shown (k : Int) (a1 a2 a3 : Bool) (w : World) (hk : (bits .and .u8 k 2 != 0) = true) :
    Calls Yba.prog 3 #[.int .u8 k, .bool a1, .bool a2, .bool a3] w fun e w' => e = .returned (.bool true) ∧ Grown w w' := by
  cases a1 <;> cases a3 <;> (
    go_enter Yba.func3, Yba.ntmps3
    go_wp2_with fail
    refine (sec_shown _ k _ hk).mono ?_
    rintro e w' ⟨rfl, rfl⟩
    go_wp2
    go_ret
    exact ⟨rfl, by repeat (first | exact Grown.refl _ | apply Grown.drew | apply Grown.alloc)⟩)

set_option maxHeartbeats 1000000 in
theorem walk_nil (k : Int) (a2 a3 : Bool) (w : World) (hk : (bits .and .u8 k 2 != 0) = false) :
    Calls Yba.prog 3 #[.int .u8 k, .bool false, .bool a2, .bool a3] w fun e w' => e = .returned (.bool true) ∧ Grown w w' := by
  cases a3
  · go_enter Yba.func3, Yba.ntmps3
    go_wp2_with fail
    refine (sec_nil _ none k _ hk (by simp) (by simp)).mono ?_
    rintro e w' ⟨rfl, rfl⟩
    go_wp2
    go_ret
    exact ⟨rfl, by repeat (first | exact Grown.refl _ | apply Grown.drew | apply Grown.alloc)⟩
  · go_enter Yba.func3, Yba.ntmps3
    go_wp2_with fail
    refine (sec_nil _ (some ⟨w.heap.size, 0, none⟩) k _ hk (by simp) (by simp)).mono ?_
    rintro e w' ⟨rfl, rfl⟩
    go_wp2
    go_ret
    exact ⟨rfl, by repeat (first | exact Grown.refl _ | apply Grown.drew | apply Grown.alloc)⟩

set_option maxHeartbeats 1000000 in
theorem walk_none (k : Int) (a3 : Bool) (w : World) (hk : (bits .and .u8 k 2 != 0) = false) :
    Calls Yba.prog 3 #[.int .u8 k, .bool true, .bool false, .bool a3] w fun e w' => e = .returned (.bool true) ∧ Grown w w' := by
  cases a3
  · go_enter Yba.func3, Yba.ntmps3
    go_wp2_with fail
    refine (sec_none _ w.heap.size none k _ hk (by simp) (by simp) (by simp)).mono ?_
    rintro e w' ⟨rfl, rfl⟩
    go_wp2
    go_ret
    exact ⟨rfl, by repeat (first | exact Grown.refl _ | apply Grown.drew | apply Grown.alloc)⟩
  · go_enter Yba.func3, Yba.ntmps3
    go_wp2_with fail
    refine (sec_none _ (w.heap.size + 1) (some ⟨w.heap.size, 0, none⟩) k _ hk (by go_simp) (by go_simp) (by go_simp)).mono ?_
    rintro e w' ⟨rfl, rfl⟩
    go_wp2
    go_ret
    exact ⟨rfl, by repeat (first | exact Grown.refl _ | apply Grown.drew | apply Grown.alloc)⟩

theorem eq_root (a : Addr) (w : World) : (binOp .eql 22 (.pointer (some a)) (.pointer (some a))).run Yba.prog w = .ok (.bool true) w := by
  obtain ⟨j, hj⟩ := Option.isSome_iff_exists.1 (show (Yba.prog.info? 29).isSome = true by kernel_rfl)
  exact run_eql_ptr_same w a Yba.underlying22 hj

theorem eq_schema (a : Addr) (w : World) : (binOp .eql 30 (.pointer (some a)) (.pointer (some a))).run Yba.prog w = .ok (.bool true) w := by
  obtain ⟨j, hj⟩ := Option.isSome_iff_exists.1 (show (Yba.prog.info? 48).isSome = true by kernel_rfl)
  exact run_eql_ptr_same w a Yba.underlying30 hj

set_option maxHeartbeats 1000000 in
set_option maxRecDepth 100000 in
theorem walk_some (k : Int) (a3 : Bool) (w : World) (hk : (bits .and .u8 k 2 != 0) = false) :
    Calls Yba.prog 3 #[.int .u8 k, .bool true, .bool true, .bool a3] w fun e w' => e = .returned (.bool true) ∧ Grown w w' := by
  have hm : ∀ w : World, (binOp .eql 63 (.map none) (.map none)).run Yba.prog w = .ok (.bool true) w := fun _ => by kernel_rfl
  have q1 := eq_root
  have q2 := eq_schema
  cases a3
  · go_enter Yba.func3, Yba.ntmps3
    go_wp2_with fail
    refine (sec_some _ w.heap.size none k _ hk (by simp) (by simp) (by simp)).mono ?_
    rintro e w' ⟨rfl, rfl⟩
    go_wp2
    go_ret
    exact ⟨rfl, by repeat (first | exact Grown.refl _ | apply Grown.drew | apply Grown.alloc)⟩
  · go_enter Yba.func3, Yba.ntmps3
    go_wp2_with fail
    refine (sec_some _ (w.heap.size + 1) (some ⟨w.heap.size, 0, none⟩) k _ hk (by go_simp) (by go_simp) (by go_simp)).mono ?_
    rintro e w' ⟨rfl, rfl⟩
    go_wp2
    go_ret
    exact ⟨rfl, by repeat (first | exact Grown.refl _ | apply Grown.drew | apply Grown.alloc)⟩

theorem walk (a0 : Int) (a1 : Bool) (a2 : Bool) (a3 : Bool) (w0 : (Lit.int .u8 a0).wf = true) (w : World) :
    Calls Yba.prog 3 #[.int .u8 a0, .bool a1, .bool a2, .bool a3] w fun e w' => e = .returned (.bool true) ∧ Grown w w' := by
  cases hk : (bits .and .u8 a0 2 != 0)
  · cases a1
    · exact walk_nil a0 a2 a3 w hk
    · cases a2
      · exact walk_none a0 a3 w hk
      · exact walk_some a0 a3 w hk
  · exact walk_shown a0 a1 a2 a3 w hk

/-! ### THE ROW's STEP: WRITTEN OUT: LEAVE IT -/
set_option maxRecDepth 100000 in
theorem lifted (os : Os) (started : os.Started) (H : Type) (enc : TypeId × Value → H) :
    ReturnsInHanded {} Yba.checked os 3 .any (Rows.lawS1440CExactSpec.pre6 enc Yba.prog Yba.f3 Rows.lawS1440CExactRow.domain false) (Rows.lawS1440CExactSpec.post enc Yba.prog Yba.f3 false true false false) := by
  refine returnsInHanded_of_change (C := Yba.checked) own started (by kernel_rfl) Yba.func3
    (ChangeSpec.witness6 (enc := enc) (C := Yba.checked) false ⟨#[], #[.int .u8 0, .bool false, .bool false, .bool false], []⟩ 8 (by kernel_rfl) (by kernel_rfl) (by kernel_rfl) (by kernel_rfl)) ?_
  intro W base args ds gs before hval0 hW hcnd _
  have hval : ∀ (j : Nat) t v, Yba.f3.params[j]? = some t → args[j]? = some v → Value.okWide Yba.prog W .any base t v := hval0
  have hW' := hW
  obtain ⟨p, q, hA0, hV, rfl, hfz, hnd⟩ := hW
  have hA : DataW.TrodAll enc Yba.prog W 0 (fun _ => true) true Yba.f3.params.toList args.toList ds p := hA0
  rw [Yba.params3] at hA hval
  obtain ⟨v0, vs0, d0, ds0, p0, q0, hargs, rfl, rfl, h0, r0⟩ := trodAll_cons hA
  obtain ⟨v1, vs1, d1, ds1, p1, q1, rfl, rfl, rfl, h1, r1⟩ := trodAll_cons r0
  obtain ⟨v2, vs2, d2, ds2, p2, q2, rfl, rfl, rfl, h2, r2⟩ := trodAll_cons r1
  obtain ⟨v3, vs3, d3, ds3, p3, q3, rfl, rfl, rfl, h3, r3⟩ := trodAll_cons r2
  obtain ⟨rfl, rfl, rfl⟩ := trodAll_nil r3
  obtain rfl : args = #[v0, v1, v2, v3] := by cases args; simp_all
  obtain ⟨rfl, rfl⟩ := trodVars_none hV
  obtain ⟨a0, rfl, rfl, rfl, w0⟩ := open_int Yba.underlying5 (hval 0 5 v0 rfl rfl) h0
  obtain ⟨a1, rfl, rfl, rfl⟩ := open_bool Yba.underlying4 (hval 1 4 v1 rfl rfl) h1
  obtain ⟨a2, rfl, rfl, rfl⟩ := open_bool Yba.underlying4 (hval 2 4 v2 rfl rfl) h2
  obtain ⟨a3, rfl, rfl, rfl⟩ := open_bool Yba.underlying4 (hval 3 4 v3 rfl rfl) h3
  clear hA0 hval0
  simp only [List.append_nil] at hW'
  refine (walk a0 a1 a2 a3 w0 W).mono fun e W' ⟨he, hg⟩ => ?_
  subst he
  exact ⟨_, rfl, post_of_same (pa := []) (pv := []) hW' (fun _ _ _ => (trodAll_cons_mk (shut_bool Yba.underlying4 _) trodAll_mk0)) (fun sp _ => (trodAll_cons_mk (shut_int Yba.underlying5 w0) (trodAll_cons_mk (shut_bool Yba.underlying4 _) (trodAll_cons_mk (shut_bool Yba.underlying4 _) (trodAll_cons_mk (shut_bool Yba.underlying4 _) trodAll_mk0))))) (fun _ _ => rfl) rfl
    (hg.frame _) hg.2.1 (ok_one (by kernel_rfl) rfl (okWide_bool_mk Yba.underlying4 _))⟩

theorem over : Rows.lawS1440CExactRow.holds Yba.pinned (OpenSpec.ofChange Rows.lawS1440CExactSpec) :=
  OpenClaim.holds_of_wide 3 Yba.f3 rfl rfl rfl rfl rfl rfl rfl ⟨rfl, rfl, rfl, rfl, rfl⟩ rfl rfl rfl rfl rfl (by kernel_rfl) Yba.func3 (by kernel_rfl)
    (of_decide_eq_true (by kernel_rfl)) (by unfold Func.isWrapper; first | (rw [if_pos (by decide +kernel)]; kernel_rfl) | (rw [if_neg (by decide +kernel)]; exact ⟨rfl, rfl⟩))
    (fun os started H enc _ => lifted os started H enc)

/-- ████ THE STATEMENT ████ -/
theorem proved : Rows.LawS1440CExactSaid :=
  over
#print axioms proved
end Go.Proofs.Ybulkacuk.lawS1440CExact
