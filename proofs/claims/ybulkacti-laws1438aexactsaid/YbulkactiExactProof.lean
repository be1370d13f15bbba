/-
  The row's step for 'Rows.LawS1438AExactSaid': the two structs opened, the law's walk, the arguments read again.
-/
import Derived.Test.YbulkactiRows
import Derived.Test.YbulkactiLaw
import Derived.WalkKit
import Derived.ProofKit
import Derived.OpenShut
import Derived.ShutString
import Derived.ChangeOld
import Derived.Below
namespace Go.Proofs.Ybulkacti
open Go.ChangeShapes Go.WideShapes Go.ChangeAt Go.RowKit
open Go.ChangeMaps (open_string shut_string)
set_option linter.unusedVariables false

theorem own : ownKnob Yba.prog.godebug = none := by kernel_rfl
theorem laidOut : laidOutB Yba.prog = true := by kernel_rfl
theorem Yba.cells24 : Yba.prog.cellsOf 24 = 6 := by kernel_rfl
theorem Yba.cells22 : Yba.prog.cellsOf 22 = 1 := by kernel_rfl
theorem Yba.cells3 : Yba.prog.cellsOf 3 = 1 := by kernel_rfl
theorem Yba.cells9 : Yba.prog.cellsOf 9 = 1 := by kernel_rfl

theorem array6 {α : Type} {cs : Array α} (h : cs.size = 6) : ∃ c0 c1 c2 c3 c4 c5, cs = #[c0, c1, c2, c3, c4, c5] := by
  obtain ⟨l⟩ := cs
  match l, h with
  | [c0, c1, c2, c3, c4, c5], _ => exact ⟨c0, c1, c2, c3, c4, c5, rfl⟩

theorem list6 {α : Type} {xs : List α} (h : xs.length = 6) : ∃ c0 c1 c2 c3 c4 c5, xs = [c0, c1, c2, c3, c4, c5] := by
  match xs, h with
  | [c0, c1, c2, c3, c4, c5], _ => exact ⟨c0, c1, c2, c3, c4, c5, rfl⟩

/-- A struct of the law's parameter type, by value: six fields of one cell. -/
theorem open24 {H : Type} {enc : TypeId × Value → H} {w : World} {r : Reach} {b0 base : Nat} {spare : Nat → Bool} {held : Bool} {v : Value} {d : DataW H} {p : List MemPlace}
    (hv : Value.okWide Yba.prog w r b0 24 v) (h : DataW.Trod enc Yba.prog w base spare held 24 v d p) :
    ∃ (f g m u : Int) (i q : ByteArray), v = .agg #[.int .u64 f, .int .u64 g, .int .i64 m, .int .i64 u, .string i, .string q] ∧ (Lit.int .u64 f).wf = true ∧ (Lit.int .u64 g).wf = true := by
  obtain ⟨cs, rfl, hsz⟩ := okWide_struct Yba.underlying24 hv
  obtain ⟨c0, c1, c2, c3, c4, c5, rfl⟩ := array6 (hsz.trans Yba.cells24)
  obtain ⟨fuel, hf⟩ := h
  obtain ⟨xs, n, _, _, _, hl, hx⟩ := DataW.trod_struct Yba.underlying24 hf
  obtain ⟨x0, x1, x2, x3, x4, x5, rfl⟩ := list6 hl
  have h0 : DataW.trod enc Yba.prog w base spare held n 22 (([c0, c1, c2, c3, c4, c5].drop 0).take (Yba.prog.cellsOf 22)) = some x0 := hx 0 _ rfl
  have h1 : DataW.trod enc Yba.prog w base spare held n 22 (([c0, c1, c2, c3, c4, c5].drop 1).take (Yba.prog.cellsOf 22)) = some x1 := hx 1 _ rfl
  have h2 : DataW.trod enc Yba.prog w base spare held n 3 (([c0, c1, c2, c3, c4, c5].drop 2).take (Yba.prog.cellsOf 3)) = some x2 := hx 2 _ rfl
  have h3 : DataW.trod enc Yba.prog w base spare held n 3 (([c0, c1, c2, c3, c4, c5].drop 3).take (Yba.prog.cellsOf 3)) = some x3 := hx 3 _ rfl
  have h4 : DataW.trod enc Yba.prog w base spare held n 9 (([c0, c1, c2, c3, c4, c5].drop 4).take (Yba.prog.cellsOf 9)) = some x4 := hx 4 _ rfl
  have h5 : DataW.trod enc Yba.prog w base spare held n 9 (([c0, c1, c2, c3, c4, c5].drop 5).take (Yba.prog.cellsOf 9)) = some x5 := hx 5 _ rfl
  rw [Yba.cells22] at h0 h1
  rw [Yba.cells3] at h2 h3
  rw [Yba.cells9] at h4 h5
  obtain ⟨f, e0, _, wf⟩ := DataW.trod_int Yba.underlying22 h0
  obtain ⟨g, e1, _, wg⟩ := DataW.trod_int Yba.underlying22 h1
  obtain ⟨m, e2, _, _⟩ := DataW.trod_int Yba.underlying3 h2
  obtain ⟨u, e3, _, _⟩ := DataW.trod_int Yba.underlying3 h3
  obtain ⟨i, e4, _, _⟩ := DataW.trod_string Yba.underlying9 h4
  obtain ⟨q, e5, _, _⟩ := DataW.trod_string Yba.underlying9 h5
  simp at e0 e1 e2 e3 e4 e5
  subst e0 e1 e2 e3 e4 e5
  exact ⟨f, g, m, u, i, q, rfl, wf, wg⟩

set_option maxRecDepth 100000 in
theorem lifted (os : Os) (started : os.Started) (H : Type) (enc : TypeId × Value → H) :
    ReturnsInHanded {} Yba.checked os 3 .any (Rows.lawS1438AExactSpec.pre6 enc Yba.prog Yba.f3 Rows.lawS1438AExactRow.domain false) (Rows.lawS1438AExactSpec.post enc Yba.prog Yba.f3 false true false false) := by
  refine returnsInHanded_of_change (C := Yba.checked) own started (by kernel_rfl) Yba.func3
    (ChangeSpec.witness6 (enc := enc) (C := Yba.checked) false ⟨#[], #[.agg #[.int .u64 0, .int .u64 0, .int .i64 0, .int .i64 0, .string ByteArray.empty, .string ByteArray.empty], .agg #[.int .u64 0, .int .u64 0, .int .i64 0, .int .i64 0, .string ByteArray.empty, .string ByteArray.empty], .int .u8 0, .int .u8 0], []⟩ 8 (by kernel_rfl) (by kernel_rfl) (by kernel_rfl) (by kernel_rfl)) ?_
  intro W base args ds gs before hval0 hW hcnd _
  have hval : ∀ (j : Nat) t v, Yba.f3.params[j]? = some t → args[j]? = some v → Value.okWide Yba.prog W .any base t v := hval0
  have hW' := hW
  obtain ⟨p, q, hA0, hV, rfl, hfz, hnd⟩ := hW
  have hA : DataW.TrodAll enc Yba.prog W 0 (fun _ => true) true Yba.f3.params.toList args.toList ds p := hA0
  rw [Yba.params3] at hA hval
  obtain ⟨v0, vs0, d0, ds0, p0, q0, hargs, rfl, rfl, h0, r0⟩ := trodAll_cons hA
  obtain ⟨v1, vs1, d1, ds1, p1, q1, rfl, rfl, rfl, h1, r1⟩ := trodAll_cons r0
  obtain ⟨v2, vs2, d2, ds2, p2, q2, rfl, rfl, rfl, h2, r2⟩ := trodAll_cons r1
  obtain ⟨v3, vs3, d3, ds3, p3, q3, rfl, rfl, rfl, h3, r3⟩ := trodAll_cons r2
  obtain ⟨rfl, rfl, rfl⟩ := trodAll_nil r3
  obtain rfl : args = #[v0, v1, v2, v3] := by cases args; simp_all
  obtain ⟨rfl, rfl⟩ := trodVars_none hV
  have k0 := h0
  have lt0 : ∀ x ∈ p0, x.block < W.heap.size := by obtain ⟨m, hm⟩ := k0; exact DataW.trod_lt m _ _ _ hm
  have k1 := h1
  have lt1 : ∀ x ∈ p1, x.block < W.heap.size := by obtain ⟨m, hm⟩ := k1; exact DataW.trod_lt m _ _ _ hm
  obtain ⟨f, g, m, u, i, ip, rfl, wf, wg⟩ := open24 (hval 0 24 v0 rfl rfl) h0
  obtain ⟨sf, sg, sm, su, si, sp, rfl, wsf, wsg⟩ := open24 (hval 1 24 v1 rfl rfl) h1
  obtain ⟨a2, rfl, rfl, rfl, w2⟩ := open_int Yba.underlying5 (hval 2 5 v2 rfl rfl) h2
  obtain ⟨a3, rfl, rfl, rfl, w3⟩ := open_int Yba.underlying5 (hval 3 5 v3 rfl rfl) h3
  clear hA0 hval0
  refine (law_any f g m u i ip sf sg sm su si sp a2 a3 W (word_wf wf) (word_wf wg) (word_wf wsf) (word_wf wsg)).mono fun e W' ⟨he, bel⟩ => ?_
  subst he
  exact ⟨_, rfl, _, _, _, [], _, [], hW', trodAll_mk1 (shut_bool Yba.underlying4 _), (trodAll_cons_mk (Below.trod laidOut (by kernel_rfl) (of_decide_eq_true (by kernel_rfl)) k0 bel lt0) (trodAll_cons_mk (Below.trod laidOut (by kernel_rfl) (of_decide_eq_true (by kernel_rfl)) k1 bel lt1) (trodAll_cons_mk (shut_int Yba.underlying5 w2) (trodAll_cons_mk (shut_int Yba.underlying5 w3) trodAll_mk0)))), rfl, bel.frame _, fun h => by cases h⟩

theorem proved : Rows.LawS1438AExactSaid :=
  OpenClaim.holds_of_wide 3 Yba.f3 rfl rfl rfl rfl rfl rfl rfl ⟨rfl, rfl, rfl, rfl, rfl⟩ rfl rfl rfl rfl rfl (by kernel_rfl) Yba.func3 (by kernel_rfl)
    (of_decide_eq_true (by kernel_rfl)) (by unfold Func.isWrapper; first | (rw [if_pos (by decide +kernel)]; kernel_rfl) | (rw [if_neg (by decide +kernel)]; exact ⟨rfl, rfl⟩))
    (fun os started H enc _ => lifted os started H enc)
#print axioms proved
end Go.Proofs.Ybulkacti
