/-
  'zzs1434amodel': the plain fold 'modelL'.
-/
import Derived.Test.YbulkacreConv
import Derived.Deep.Draws
import Derived.Deep.QuietTactic
import Derived.BigQuiet
import Derived.Deep.RegionHeld3
import Derived.Deep.AppendLies
import Derived.Deep.DrawnRows
import Derived.Deep.DeepCutAuto
import Derived.Deep.LoopGhost
import Derived.Deep.CutBlock
namespace Go.Proofs.Ybulkacre
open Go.RowKit
attribute [local go_sem ↓] Go.wp_at_zero Go.wp_at_succ

/-- A row of pairs of the call's own is a slice; not empty: at an address. -/
theorem own_shape {w : World} {B n : Nat} {v : Value} {xs : List Value} {e : TypeId} {sz : Nat} (h : w.ownsRow B e sz v n xs) : ∃ ao c, v = .slice ao n c := by
  rcases h.2 with ⟨rfl, rfl⟩ | ⟨g, c, _, rfl, _⟩
  · exact ⟨_, _, rfl⟩
  · exact ⟨_, _, rfl⟩

theorem hasT_snoc (l : List P2) (j : Nat) (h : j < l.length) (t : ByteArray) : hasT (l.take (j + 1)) t = (hasT (l.take j) t || sameT (l[j]).1 t) := by
  unfold hasT
  rw [take_snoc2 l j h, List.any_append]
  simp

theorem own_drewN {w : World} {B n : Nat} {v : Value} {xs : List Value} {e : TypeId} {sz : Nat} (h : w.ownsRow B e sz v n xs) (q : Nat) : (w.drewN q).ownsRow B e sz v n xs := h
theorem below_drewN {B : Nat} {a w : World} (h : Below B a w) (q : Nat) : Below B a (w.drewN q) := ⟨h.os, h.tape, h.output, h.size, h.block⟩

theorem own_cell0 {w : World} {B c g : Nat} {L : List P2} (h : w.ownsRow B 91 2 (.slice (some ⟨g, 0, none⟩) L.length c) L.length (pc L)) (j : Nat) (hj : j < L.length) : w.cell? ⟨g, j * 2, none⟩ = some (.string (L[j]).1) := by
  have := h.cells (g := g) rfl (j * 2) _ (pc_get0 L j hj)
  rwa [Addr.add_lit, Nat.zero_add] at this
theorem own_cell1 {w : World} {B c g : Nat} {L : List P2} (h : w.ownsRow B 91 2 (.slice (some ⟨g, 0, none⟩) L.length c) L.length (pc L)) (j : Nat) (hj : j < L.length) : w.cell? ⟨g, j * 2 + 1, none⟩ = some (.string (L[j]).2) := by
  have := h.cells (g := g) rfl (j * 2 + 1) _ (pc_get1 L j hj)
  rwa [Addr.add_lit, Nat.zero_add] at this

/-- A block below the base is not the row's own. -/
theorem own_far {w : World} {B n b : Nat} {v : Value} {xs : List Value} {e : TypeId} {sz : Nat} (h : w.ownsRow B e sz v n xs) (hb : b < B) : some b ≠ v.ownBlock := fun he => by
  have := (h.lt b he.symm).1
  omega

theorem step_has {l ps L : List P2} {k : Nat} (hk : k < ps.length) (hL : L = modelL l (ps.take k)) {t : ByteArray} (ht : t = (ps[k]).1) (h : hasT L t = true) : modelL l (ps.take (k + 1)) = L := by
  rw [take_snoc2 ps k hk, modelL_snoc, ← hL, addL, ← ht, h]
  rfl
theorem step_hasnt {l ps L : List P2} {k : Nat} (hk : k < ps.length) (hL : L = modelL l (ps.take k)) {t : ByteArray} (ht : t = (ps[k]).1) (h : hasT L t = false) : modelL l (ps.take (k + 1)) = L ++ [ps[k]] := by
  rw [take_snoc2 ps k hk, modelL_snoc, ← hL, addL, ← ht, h]
  rfl
theorem pc_snoc (L : List P2) (x : P2) {t : ByteArray} (ht : t = x.1) : pc L ++ [.string t, .string x.2] = pc (L ++ [x]) := by
  rw [pc_append, pc_one, ht]

/-- The outer relation, made. -/
theorem rel_mk {w wr : World} {B n k r m c : Nat} {l ps L' : List P2} {ao : Option Addr} (hM : modelL l (ps.take (k + 1)) = L') (hm : m = L'.length) (ho : wr.ownsRow B 91 2 (.slice ao m c) m (pc L')) (hb : Below B w wr) (hk : k + 1 + r = n) :
    ∃ (k' : Nat) (ao' : Option Addr) (c' : Nat), k' + r = n ∧ Value.int .i64 ((k : Int) + 1) = .int .i64 k' ∧ Value.slice ao m c = .slice ao' (modelL l (ps.take k')).length c' ∧
      wr.ownsRow B 91 2 (.slice ao' (modelL l (ps.take k')).length c') (modelL l (ps.take k')).length (pc (modelL l (ps.take k'))) ∧ Below B w wr := by
  subst hm
  exact ⟨k + 1, ao, c, hk, by go_num, by rw [hM], by rw [hM]; exact ho, hb⟩

set_option maxHeartbeats 1000000 in
set_option maxRecDepth 100000 in
theorem model_some (B : Nat) (sv : Value) (l : List P2) (b off cap : Nat) (ps : List P2) (w : World) (hown : w.ownsRow B 91 2 sv l.length (pc l)) (hBw : B ≤ w.heap.size) (hp : Pairs B w b off ps) (hlen : ps.length ≤ 1024) (hll : l.length ≤ 1024) :
    Calls Yba.prog 9 #[sv, .slice (some ⟨b, off, none⟩) ps.length cap] w fun e w' => ∃ ao c, e = .returned (.slice ao (modelL l ps).length c) ∧ w'.ownsRow B 91 2 (.slice ao (modelL l ps).length c) (modelL l ps).length (pc (modelL l ps)) ∧ Below B w w' := by
  obtain ⟨i0, hi, hz0, hz1, hz2⟩ := info_parts Yba.info91
  obtain ⟨ao0, c0, rfl⟩ := own_shape hown
  obtain ⟨n, hn⟩ : ∃ n, n = ps.length := ⟨_, rfl⟩
  rw [← hn]
  have HN := hide hn
  have hn1 : n ≤ 1024 := by omega
  have HP := hide hp
  have HO := hide hown
  clear hn hlen hp hown
  go_enter Yba.func9, Yba.ntmps9
  go_wp2
  go_loopg [0, 5] n (fun r v i wr => ∃ (k : Nat) (ao : Option Addr) (c : Nat), k + r = n ∧ i = .int .i64 k ∧ v = .slice ao (modelL l (ps.take k)).length c ∧ wr.ownsRow B 91 2 (.slice ao (modelL l (ps.take k)).length c) (modelL l (ps.take k)).length (pc (modelL l (ps.take k))) ∧ Below B w wr)
  case atStart => exact ⟨0, ao0, c0, by omega, rfl, rfl, HO.out, Below.refl _ _⟩
  case round =>
    obtain ⟨k, ao, c, hk, rfl, rfl, hro, hbl⟩ := hrel
    obtain ⟨L, hL⟩ : ∃ L, L = modelL l (ps.take k) := ⟨_, rfl⟩
    have hLn : L.length ≤ 2048 := by
      have h1 := (modelL_len (ps.take k) l).2
      have h2 : (ps.take k).length ≤ k := List.length_take_le _ _
      rw [hL]
      omega
    rw [← hL] at hro ⊢
    have HL := hide hL
    clear hL
    by_cases hlt : k < n
    · have hkp : k < ps.length := by have := HN.out; omega
      have hx0 := HP.out.cell0 k hkp
      have hx1 := HP.out.cell1 k hkp
      have hb : b < B := HP.out.below
      rw [← hbl.cell (by exact hb)] at hx0 hx1
      obtain ⟨m, hm⟩ : ∃ m, m = L.length := ⟨_, rfl⟩
      rw [← hm] at hro hLn ⊢
      have HM := hide hm
      clear hm
      have HR := hide hro
      obtain ⟨wo, rfl⟩ : ∃ wo : World, wo = wr := ⟨_, rfl⟩
      obtain ⟨t, ht⟩ : ∃ t, t = (ps[k]).1 := ⟨_, rfl⟩
      rw [← ht] at hx0
      have HT := hide ht
      clear ht
      go_upto_block 2 with fail
      go_cut [6] (fun seen w' => seen = .bool (hasT L t) ∧ ∃ q, w' = wo.drewN q)
      case first =>
        by_cases hm0 : m = 0
        · subst hm0
          have hLe : L = [] := List.eq_nil_of_length_eq_zero HM.out.symm
          have HE := hide hLe
          clear hLe
          go_wp2
          refine wp_loop_rounds 1 ?_
          rw [rounds_succ]
          go_wp2
          go_meet
          case rel => exact ⟨by rw [HE.out]; rfl, 0, rfl⟩
        · obtain ⟨g, cp, hv, hBg, hgl⟩ := hro.form (by omega)
          simp only [Value.slice.injEq, true_and] at hv
          obtain ⟨rfl, rfl⟩ := hv
          clear hro
          go_wp2
          go_loopg [6, 7] m (fun r seen kk wx => ∃ j q : Nat, j + r = m ∧ kk = .int .i64 j ∧ seen = .bool (hasT (L.take j) t) ∧ wx = wo.drewN q)
          case atStart => exact ⟨0, 0, by omega, rfl, rfl, rfl⟩
          case round =>
            obtain ⟨j, q, hj, rfl, rfl, rfl⟩ := hrel
            by_cases hjm : j < m
            · have hjl : j < L.length := by have := HM.out; omega
              have hy0 : wo.cell? ⟨g, j * 2, none⟩ = some (.string (L[j]).1) := own_cell0 (by have h := HR.out; rw [HM.out] at h; exact h) j hjl
              have hj0 : (0 : Int) ≤ (j : Int) := by omega
              have hj1 : (j : Int) < (m : Int) := by omega
              have hk0 : (0 : Int) ≤ (k : Int) := by omega
              have hk1 : (k : Int) < (n : Int) := by omega
              cases hE : ((L[j]).1.toList == t.toList)
              · go_wp2
                go_quiet (fail)
                go_wp2
                go_roundg (m - (j + 1))
                case measure => omega
                case rel => exact ⟨j + 1, _, by omega, by go_num, by rw [hasT_snoc L j hjl, sameT, hE, Bool.or_false], rfl⟩
              · go_wp2
                go_quiet (fail)
                go_wp2
                go_roundg (m - (j + 1))
                case measure => omega
                case rel => exact ⟨j + 1, _, by omega, by go_num, by rw [hasT_snoc L j hjl, sameT, hE, Bool.or_true], rfl⟩
            · obtain rfl : j = m := by omega
              go_wp2
              go_meet
              case rel => exact ⟨by rw [List.take_of_length_le (by have := HM.out; omega)], _, rfl⟩
      obtain ⟨rfl, q, hq⟩ := hcut
      have hxc0 : wc.cell? ⟨b, off + k * 2, none⟩ = some (.string t) := by rw [hq]; exact hx0
      have hxc1 : wc.cell? ⟨b, off + k * 2 + 1, none⟩ = some (.string (ps[k]).2) := by rw [hq]; exact hx1
      have hrc : wc.ownsRow B 91 2 (.slice ao m c) m (pc L) := by rw [hq]; exact own_drewN HR.out q
      have hbc : Below B w wc := by rw [hq]; exact below_drewN hbl q
      have hk0 : (0 : Int) ≤ (k : Int) := by omega
      have hk1 : (k : Int) < (n : Int) := by omega
      have hws : B ≤ wc.heap.size := by have := hbc.size; omega
      have hbw : b < wc.heap.size := by omega
      clear hx0 hx1 hro HR hbl hq
      cases hS : hasT L t
      · go_wp2
        go_region_held3 (fun w' => w'.cell? ⟨b, off + k * 2, none⟩ = some (.string t) ∧ w'.cell? ⟨b, off + k * 2 + 1, none⟩ = some (.string (ps[k]).2))
          (first
            | go_keep
            | (go_split_ands
               refine ⟨?_, ?_⟩
               · (rw [hgrow.cell_far _ (by simp; omega) (own_far hrc hb)]; assumption)
               · (rw [hgrow.cell_far _ (by simp; omega) (own_far hrc hb)]; assumption)))
          ((refine step_append_lies _ (by rfl) _ _ _ (by rfl) B 91 i0 _ 2 32 Yba.underlying27 hi hz0 hz1 hz2 rfl (by omega) (.slice ao m c) m (pc L) (by rfl) ((hrc.alloc _).drew)
              ⟨wc.heap.size, 0, none⟩ 1 1 [.string t, .string (ps[k]).2] (by rfl) (by rfl) (World.news_of_block (cs := #[.string t, .string (ps[k]).2]) (t := 91) (fr := (0, 0)) (heap_alloc_new wc _)) (by simp [Value.oneCell'])
              (by omega) (by unfold maxLen; omega) (by omega) (by simp; omega) (wc.heap.size + 1) (by simp) ?_; intro gg cap w1 hown1 hgrow hat hlt1))
        rw [pc_snoc L (ps[k]) HT.out] at hown1
        have hb1 : Below B w w1 := (((hbc.alloc hws _).drew).grown hgrow (by simp; omega) (fun j hj => (hrc.lt j hj).1))
        clear hgrow hat
        go_wp2
        go_roundg (n - (k + 1))
        case measure => omega
        case rel => exact rel_mk (step_hasnt hkp HL.out HT.out hS) (by rw [HM.out]; simp) hown1 hb1 (by omega)
      · go_wp2
        go_roundg (n - (k + 1))
        case measure => omega
        case rel => exact rel_mk (step_has hkp HL.out HT.out hS) HM.out hrc hbc (by omega)
    · obtain rfl : k = n := by omega
      have hfin : modelL l ps = L := by rw [HL.out, List.take_of_length_le (by have := HN.out; omega)]
      have HF := hide hfin
      have HR := hide hro
      clear hfin hro
      go_wp2
      go_ret
      exact ⟨ao, c, by rw [HF.out]; rfl, by rw [HF.out]; exact HR.out, hbl⟩

set_option maxHeartbeats 1000000 in
/-- An empty slice, at whatever address; a nil one. -/
theorem model_zero (B : Nat) (sv : Value) (l : List P2) (a : Option Addr) (cap : Nat) (w : World) (hown : w.ownsRow B 91 2 sv l.length (pc l)) :
    Calls Yba.prog 9 #[sv, .slice a 0 cap] w fun e w' => ∃ ao c, e = .returned (.slice ao (modelL l []).length c) ∧ w'.ownsRow B 91 2 (.slice ao (modelL l []).length c) (modelL l []).length (pc (modelL l [])) ∧ Below B w w' := by
  obtain ⟨ao0, c0, rfl⟩ := own_shape hown
  have HO := hide hown
  clear hown
  go_enter Yba.func9, Yba.ntmps9
  go_wp2
  refine wp_loop_rounds 1 ?_
  rw [rounds_succ]
  go_wp2
  go_ret
  exact ⟨ao0, c0, rfl, HO.out, Below.refl _ _⟩

end Go.Proofs.Ybulkacre
