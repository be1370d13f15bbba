/-
  'zzs1434aconv': the admissions as the journal's own type: a row of the call's own with the same pairs.
-/
import Derived.Test.YbulkacreRows
import Derived.Test.YbulkacrePlain
import Derived.WalkKit
import Derived.WalkSpells
import Derived.WalkLawsBesides
import Derived.BigRegion
import Derived.Deep.Light
namespace Go.Proofs.Ybulkacre
open Go.RowKit

theorem hide {p : Prop} (h : p) : Hid p := h

theorem Yba.info91 : (Yba.prog.info? 91).map (fun i => (i.zero, i.size, i.bytes)) = some (some (.agg #[.string ByteArray.empty, .string ByteArray.empty]), 2, 32) := by kernel_rfl

/-- A slice of pairs at an address, that came in: the cells of its first 'len' pairs, in a block below B. -/
structure Pairs (B : Nat) (w : World) (b off : Nat) (ps : List P2) : Prop where
  below : b < B
  cell0 : ∀ i (h : i < ps.length), w.cell? ⟨b, off + i * 2, none⟩ = some (.string (ps[i]).1)
  cell1 : ∀ i (h : i < ps.length), w.cell? ⟨b, off + i * 2 + 1, none⟩ = some (.string (ps[i]).2)

theorem Pairs.kept {B : Nat} {w w' : World} {b off : Nat} {ps : List P2} (h : Pairs B w b off ps) (hb : w'.heap[b]? = w.heap[b]?) : Pairs B w' b off ps :=
  ⟨h.below, fun i hi => by rw [World.cell?_of_block (w := w) hb]; exact h.cell0 i hi, fun i hi => by rw [World.cell?_of_block (w := w) hb]; exact h.cell1 i hi⟩

/-- Block g holds k of the pairs; below it nothing has turned. -/
def Half (w wr : World) (g n k : Nat) (ps : List P2) : Prop :=
  ∃ cur, wr.heap[g]? = some (.cells cur 91 (0, 0)) ∧ cur.size = n * 2 ∧ cur.toList.take (k * 2) = pc (ps.take k) ∧ Below g w wr

theorem row_cell {w : World} {b : Nat} {c : Array Value} {t : TypeId} (h : w.heap[b]? = some (.cells c t (0, 0))) (k : Nat) : w.cell? ⟨b, k, none⟩ = c[k]? := cell_of_row w b k c t (0, 0) h
theorem row_free {w : World} {b : Nat} {c : Array Value} {t : TypeId} (h : w.heap[b]? = some (.cells c t (0, 0))) (k : Nat) : w.frozen? ⟨b, k, none⟩ = false := by
  simp [World.frozen?, h]

theorem take_two {α : Type} (L : List α) (m : Nat) (s t : α) (h : m + 1 < L.length) : ((L.set m s).set (m + 1) t).take (m + 2) = L.take m ++ [s, t] := by
  apply List.ext_getElem?
  intro j
  simp only [List.getElem?_take, List.getElem?_set, List.getElem?_append, List.length_take, List.length_set]
  have hm : min m L.length = m := by omega
  rw [hm]
  by_cases h1 : j < m
  · have h2 : j < m + 2 := by omega
    have h3 : ¬ m + 1 = j := by omega
    have h4 : ¬ m = j := by omega
    simp [h1, h2, h3, h4]
  · by_cases h2 : j = m
    · subst h2
      have h5 : j < L.length := by omega
      simp [h5]
    · by_cases h3 : j = m + 1
      · subst h3
        simp [h]
        omega
      · have h4 : ¬ j < m + 2 := by omega
        have h5 : ∃ q, j - m = q + 2 := ⟨j - m - 2, by omega⟩
        obtain ⟨q, hq⟩ := h5
        simp [h1, h4, hq]

theorem heap_setCell_row {w : World} {b : Nat} {c : Array Value} {t : TypeId} (h : w.heap[b]? = some (.cells c t (0, 0))) (k : Nat) (v : Value) : (w.setCell ⟨b, k, none⟩ v).heap[b]? = some (.cells (c.setIfInBounds k v) t (0, 0)) := by
  simp [World.setCell, Array.getElem?_modify, h]

theorem half_step {w wr : World} {g n k : Nat} {ps : List P2} {cur : Array Value} (hk : k < n) (hn : n = ps.length) (h : wr.heap[g]? = some (.cells cur 91 (0, 0))) (hsz : cur.size = n * 2) (ht : cur.toList.take (k * 2) = pc (ps.take k)) (hb : Below g w wr) :
    Half w ((wr.setCell ⟨g, k * 2, none⟩ (.string (ps[k]'(by omega)).1)).setCell ⟨g, k * 2 + 1, none⟩ (.string (ps[k]'(by omega)).2)).drew g n (k + 1) ps := by
  refine ⟨_, heap_setCell_row (heap_setCell_row h _ _) _ _, by simpa using hsz, ?_, ((hb.setCell (Nat.le_refl _) _).setCell (Nat.le_refl _) _).drew⟩
  rw [take_snoc2 ps k (by omega), pc_append, pc_one, ← ht, show (k + 1) * 2 = k * 2 + 2 from by omega]
  simp only [Array.toList_setIfInBounds]
  exact take_two _ _ _ _ (by simp; omega)

theorem half_start {w w1 : World} {n : Nat} {xs : List Value} (ps : List P2) (ho : w1.ownsRow w.heap.size 91 2 (.slice (some ⟨w.heap.size, 0, none⟩) n n) n xs) (hg : w.grownBy w1 none) : Half w w1 w.heap.size n 0 ps := by
  rcases ho.2 with ⟨h, _⟩ | ⟨g, cap, cur, hv, _, hh, _, _, hsz, _⟩
  · cases h
  · simp only [Value.slice.injEq, Option.some.injEq, Addr.mk.injEq, and_true, true_and] at hv
    obtain ⟨rfl, rfl⟩ := hv
    exact ⟨cur, hh, hsz, by simp [pc_nil], (Below.refl _ _).grown hg (Nat.le_refl _) (fun k hk => by cases hk)⟩

theorem half_end {w wr : World} {n : Nat} {ps : List P2} (hn : n = ps.length) (hm : n ≤ 1024) (h : Half w wr w.heap.size n n ps) : wr.ownsRow w.heap.size 91 2 (.slice (some ⟨w.heap.size, 0, none⟩) n n) n (pc ps) ∧ Below w.heap.size w wr := by
  obtain ⟨cur, hh, hsz, ht, hb⟩ := h
  rw [hn, List.take_length, ← hn] at ht
  exact ⟨⟨by rw [pc_length, hn], .inr ⟨w.heap.size, n, cur, rfl, Nat.le_refl _, hh, Nat.le_refl _, by unfold maxLen; omega, hsz, ht⟩⟩, hb⟩

set_option maxHeartbeats 1000000 in
theorem conv_some (b off cap : Nat) (ps : List P2) (w : World) (hp : Pairs w.heap.size w b off ps) (hlen : ps.length ≤ 1024) :
    Calls Yba.prog 8 #[.slice (some ⟨b, off, none⟩) ps.length cap] w fun e w' => ∃ v', e = .returned v' ∧ w'.ownsRow w.heap.size 91 2 v' ps.length (pc ps) ∧ Below w.heap.size w w' := by
  obtain ⟨i0, hi, hz0, hz1, hz2⟩ := info_parts Yba.info91
  have q22 : ∀ (w : World) (a : Option Addr) (n c n' c' : Nat), (binOp .eql 22 (.slice a n c) (.slice none n' c')).run Yba.prog w = .ok (.bool a.isNone) w := fun w a n c n' c' => Lib.run_eql_slice_nil w _ _ a n c n' c' Yba.underlying22
  obtain ⟨n, hn⟩ : ∃ n, n = ps.length := ⟨_, rfl⟩
  rw [← hn]
  have HN := hide hn
  have hn1 : n ≤ 1024 := by omega
  clear hn hlen
  go_enter Yba.func8, Yba.ntmps8
  go_wp2_with (at_make; refine wpList_make_full _ rfl _ _ 27 rfl w.heap.size 91 i0 (.agg #[.string ByteArray.empty, .string ByteArray.empty]) 2 Yba.underlying27 hi hz0 hz1 .i64 .i64 _ _ n rfl rfl (by omega) (by omega) (by rw [hz2]; omega) (by unfold maxLen; omega) (Nat.le_refl _) ?_; intro w1 ho1 hg1)
  go_loopw [4] (fun i wr => ∃ k : Nat, k ≤ n ∧ i = .int .i64 k ∧ Half w wr w.heap.size n k ps) (fun i _ => n - (intOf i).toNat)
  case atStart => exact ⟨0, Nat.zero_le _, rfl, half_start ps ho1 hg1⟩
  case round =>
    obtain ⟨k, hk, rfl, cur, hcur, hsz, htk, hbl⟩ := hrel
    by_cases hlt : k < n
    · have hx0 := hp.cell0 k (by have := HN.out; omega)
      have hx1 := hp.cell1 k (by have := HN.out; omega)
      have hb : b < w.heap.size := hp.below
      rw [← hbl.cell (by exact hb)] at hx0 hx1
      obtain ⟨y0, hy0⟩ : ∃ y, cur[k * 2]? = some y := ⟨_, Array.getElem?_eq_getElem (by omega)⟩
      obtain ⟨y1, hy1⟩ : ∃ y, cur[k * 2 + 1]? = some y := ⟨_, Array.getElem?_eq_getElem (by omega)⟩
      have g0 := row_cell hcur (k * 2)
      have g1 := row_cell hcur (k * 2 + 1)
      rw [hy0] at g0
      rw [hy1] at g1
      have f0 := row_free hcur (k * 2)
      have f1 := row_free hcur (k * 2 + 1)
      have HC := hide hcur
      have HT := hide htk
      have HP := hide hp
      have hki : (0 : Int) ≤ (k : Int) := by omega
      have hkl : (k : Int) < (n : Int) := by omega
      clear hcur htk hp hy0 hy1 ho1 hg1
      go_wp2
      go_region
      go_wp2
      go_roundw
      case rel => exact ⟨k + 1, by omega, by go_num, half_step hlt HN.out HC.out hsz HT.out hbl⟩
      case measure => simp [intOf]; omega
    · obtain rfl : k = n := by omega
      have HH : Hid (Half w wr w.heap.size k k ps) := ⟨cur, hcur, hsz, htk, hbl⟩
      clear hcur hsz htk hbl
      go_wp2
      go_ret
      have hE := half_end HN.out hn1 HH.out
      exact ⟨_, rfl, hE.1, hE.2⟩

set_option maxHeartbeats 1000000 in
/-- An empty slice, at whatever address; a nil one. -/
theorem conv_zero (a : Option Addr) (cap : Nat) (w : World) :
    Calls Yba.prog 8 #[.slice a 0 cap] w fun e w' => ∃ v', e = .returned v' ∧ w'.ownsRow w.heap.size 91 2 v' 0 (pc []) ∧ Below w.heap.size w w' := by
  obtain ⟨i0, hi, hz0, hz1, hz2⟩ := info_parts Yba.info91
  have q22 : ∀ (w : World) (a : Option Addr) (n c n' c' : Nat), (binOp .eql 22 (.slice a n c) (.slice none n' c')).run Yba.prog w = .ok (.bool a.isNone) w := fun w a n c n' c' => Lib.run_eql_slice_nil w _ _ a n c n' c' Yba.underlying22
  cases a with
  | none =>
    go_enter Yba.func8, Yba.ntmps8
    go_wp2
    go_ret
    exact ⟨_, rfl, World.ownsRow_nil _ _ _ _, Below.refl _ _⟩
  | some x =>
    go_enter Yba.func8, Yba.ntmps8
    go_wp2_with (at_make; refine wpList_make_full _ rfl _ _ 27 rfl w.heap.size 91 i0 (.agg #[.string ByteArray.empty, .string ByteArray.empty]) 2 Yba.underlying27 hi hz0 hz1 .i64 .i64 _ _ 0 rfl rfl (by omega) (by omega) (by rw [hz2]; omega) (by unfold maxLen; omega) (Nat.le_refl _) ?_; intro w1 ho1 hg1)
    refine wp_loop_rounds 1 ?_
    rw [rounds_succ]
    go_wp2
    go_ret
    have hE := half_end (ps := []) (n := 0) rfl (by decide) (half_start [] ho1 hg1)
    exact ⟨_, rfl, hE.1, hE.2⟩

end Go.Proofs.Ybulkacre
