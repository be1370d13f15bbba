/-
  slices.Clone at a slice of bytes that came in; an append whose source may be nil, as one law.
-/
import Derived.Test.YbulkacqcRecord
namespace Go.Proofs.Ybulkacqc
open Go.RowKit

/-- 'append(v, src...)', v the call's own, src nil or at an address: one law for both. -/
theorem wpList_append_src {P : Program} (w : World) {ops : Array Oper} {rest : List Oper} {o : Oper} {a : Act} {Q : Exit → Act → World → Prop} (hgd : o.guard = none) (s x : Operand) (t : TypeId)
    (ho : o.op = .call { callee := .builtin .append, args := #[s, x], argTypes := #[t, t] })
    (base : Nat) (e : TypeId) (i : TypeInfo) (z : Value) (size bytes : Nat) (ht : P.underlying t = some (.slice e)) (hi : P.info? e = some i) (hz : i.zero = some z)
    (hsize : i.size = size) (hby : i.bytes = bytes) (hzs : z.cells.size = size) (hsz : 0 < size)
    (v : Value) (n : Nat) (xs : List Value) (hs : a.eval s = v) (hown : w.ownsRow base e size v n xs)
    (ao : Option Addr) (m c : Nat) (news : List Value) (hx : a.eval x = .slice ao m c) (hl : news.length = m * size) (hnone : ao = none → m = 0 ∧ c = 0)
    (hnews : ∀ ad, ao = some ad → ∀ j u, news[j]? = some u → w.cell? (ad.add j) = some u) (h1 : ∀ u ∈ news, u.oneCell' = true)
    (h63 : n + m ≤ maxLen) (hbytes : (n + m) * bytes ≤ 140737488355328) (hbase : base ≤ w.heap.size)
    (h : ∀ v' w', w'.ownsRow base e size v' (n + m) (xs ++ news) → w.grownBy w' v.ownBlock → wpList P ops Q rest (a.put o.dst v') w') : wpList P ops Q (o :: rest) a w := by
  cases ao with
  | some ad => exact wpList_append_own w hgd s x t ho base e i z size bytes ht hi hz hsize hby hzs hsz v n xs hs hown ad m c news hx hl (hnews ad rfl) h1 h63 hbytes hbase fun v' w' a1 a2 _ => h v' w' a1 a2
  | none =>
    obtain ⟨rfl, rfl⟩ := hnone rfl
    have hn : news = [] := List.eq_nil_of_length_eq_zero (by simpa using hl)
    subst hn
    exact wpList_append_own_none hgd s x t ho base e i size ht hi v n xs hs hown hx (h v w (by simpa using hown) (World.grownBy.refl _ _))

theorem src_cell {B : Nat} {w : World} {a : Option Addr} {len cap : Nat} {zs : List Int} (h : Src B w a len cap zs) : ∀ ad, a = some ad → ∀ j u, (bc zs)[j]? = some u → w.cell? (ad.add j) = some u :=
  fun ad ha j u hu => (h.cell ad ha j u hu).1

theorem src_len {B : Nat} {w : World} {a : Option Addr} {len cap : Nat} {zs : List Int} (h : Src B w a len cap zs) : (bc zs).length = len * 1 := by
  rw [bc_length, h.length, Nat.mul_one]

set_option maxHeartbeats 1000000 in
theorem clone_any (a : Option Addr) (len cap : Nat) (zs : List Int) (w : World) (hs : Src w.heap.size w a len cap zs) (hlen : len ≤ 65536) :
    Calls Yba.prog 5 #[.slice a len cap] w fun e w' => ∃ v', e = .returned v' ∧ w'.ownsRow w.heap.size 5 1 v' len (bc zs) ∧ Below w.heap.size w w' := by
  obtain ⟨i0, hi, hz0, hz1, hz2⟩ := info_parts Yba.info5
  have q22 : ∀ (w : World) (a : Option Addr) (n c n' c' : Nat), (binOp .eql 22 (.slice a n c) (.slice none n' c')).run Yba.prog w = .ok (.bool a.isNone) w := fun w a n c n' c' => Lib.run_eql_slice_nil w _ _ a n c n' c' Yba.underlying22
  cases a with
  | none =>
    obtain ⟨rfl, rfl⟩ := hs.nil rfl
    have hz : zs = [] := List.eq_nil_of_length_eq_zero hs.length
    subst hz
    go_enter Yba.func5, Yba.ntmps5
    go_wp2
    go_ret
    exact ⟨_, rfl, World.ownsRow_nil _ _ _ _, Below.refl _ _⟩
  | some x =>
    have hA : Src w.heap.size (w.alloc (.cells #[] 5)) (some x) len cap zs := hs.below ((Below.refl _ w).alloc (Nat.le_refl _) _)
    go_enter Yba.func5, Yba.ntmps5
    go_wp2_with (at_builtin; refine wpList_append_own _ rfl _ _ 22 rfl w.heap.size 5 i0 (.int .u8 0) 1 1 Yba.underlying22 hi hz0 hz1 hz2 rfl (by decide) _ _ _ rfl (World.ownsRow_made w #[] 0 (Nat.le_refl _) (Nat.zero_le _) (by simp)) x len cap (bc zs) rfl ?qc1 ?qc2 ?qc3 ?qc4 ?qc5 ?qc6 ?_)
    case qc1 => exact src_len hs
    case qc2 => exact src_cell hA x rfl
    case qc3 => exact bc_one _
    case qc4 => unfold maxLen; omega
    case qc5 => omega
    case qc6 => simp
    intro v' w1 hown hgrow _
    go_wp2
    go_ret
    refine ⟨v', rfl, by simpa using hown, ?_⟩
    exact ((Below.refl _ w).alloc (Nat.le_refl _) _).grown hgrow (by simp) (by intro k hk; simp [Value.ownBlock] at hk; omega)

end Go.Proofs.Ybulkacqc
