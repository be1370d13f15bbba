/-
  The law's own walk.
-/
import Derived.Test.YbulkactiApply
namespace Go.Proofs.Ybulkacti
open Go.RowKit

/-- '==' on two interface values that hold ints. -/
theorem eqlI (a b : Int) (w : World) : (binOp .eql 20 (.iface 3 (.int .i64 a)) (.iface 3 (.int .i64 b))).run Yba.prog w = .ok (.bool (a == b)) w := by kernel_rfl

/-- Nine new blocks: what lies in the fifth, the eighth and the ninth. -/
theorem nine (w : World) (o0 o1 o2 o3 o4 o5 o6 o7 o8 : Obj) :
    (((((((((w.alloc o0).alloc o1).alloc o2).alloc o3).alloc o4).alloc o5).alloc o6).alloc o7).alloc o8).heap[w.heap.size + 1 + 1 + 1 + 1]? = some o4 ∧
    (((((((((w.alloc o0).alloc o1).alloc o2).alloc o3).alloc o4).alloc o5).alloc o6).alloc o7).alloc o8).heap[w.heap.size + 1 + 1 + 1 + 1 + 1 + 1 + 1]? = some o7 ∧
    (((((((((w.alloc o0).alloc o1).alloc o2).alloc o3).alloc o4).alloc o5).alloc o6).alloc o7).alloc o8).heap[w.heap.size + 1 + 1 + 1 + 1 + 1 + 1 + 1 + 1]? = some o8 ∧
    Below w.heap.size w (((((((((w.alloc o0).alloc o1).alloc o2).alloc o3).alloc o4).alloc o5).alloc o6).alloc o7).alloc o8) := by
  refine ⟨?_, ?_, ?_, ?_⟩
  · show (((((((((w.heap.push o0).push o1).push o2).push o3).push o4).push o5).push o6).push o7).push o8)[_]? = _
    simp only [Array.getElem?_push, Array.size_push]
    rw [if_neg (by omega), if_neg (by omega), if_neg (by omega), if_neg (by omega), if_pos (by first | trivial | omega)]
  · show (((((((((w.heap.push o0).push o1).push o2).push o3).push o4).push o5).push o6).push o7).push o8)[_]? = _
    simp only [Array.getElem?_push, Array.size_push]
    rw [if_neg (by omega), if_pos (by first | trivial | omega)]
  · show (((((((((w.heap.push o0).push o1).push o2).push o3).push o4).push o5).push o6).push o7).push o8)[_]? = _
    simp only [Array.getElem?_push, Array.size_push]
    rw [if_pos (by first | trivial | omega)]
  · exact (((((((((Below.refl _ w).alloc (by simp) _).alloc (by simp) _).alloc (by simp; omega) _).alloc (by simp; omega) _).alloc (by simp; omega) _).alloc (by simp; omega) _).alloc (by simp; omega) _).alloc (by simp; omega) _).alloc (by simp; omega) _

set_option maxHeartbeats 1000000 in
set_option maxRecDepth 100000 in
theorem law_any (f g m u : Int) (i p : ByteArray) (sf sg sm su : Int) (si sp : ByteArray) (k1 k2 : Int) (w : World) (hf : Word f) (hg : Word g) (hsf : Word sf) (hsg : Word sg) :
    Calls Yba.prog 3 #[.agg #[.int .u64 f, .int .u64 g, .int .i64 m, .int .i64 u, .string i, .string p], .agg #[.int .u64 sf, .int .u64 sg, .int .i64 sm, .int .i64 su, .string si, .string sp], .int .u8 k1, .int .u8 k2] w
      fun e w' => e = .returned (.bool true) ∧ Below w.heap.size w w' := by
  go_enter Yba.func3, Yba.ntmps3
  go_wp2_with fail
  refine (build_any f g m u i p k1 _).mono ?_
  rintro e w1 ⟨g1, c1, c2, rfl, hg1, rfl⟩
  have hw1 : Word g1 := by rcases hg1 with rfl | h; exact hg; exact word_wf h
  clear hg1
  go_wp2_with fail
  refine (build_any sf sg sm su si sp k2 _).mono ?_
  rintro e w1 ⟨g2, c3, c4, rfl, hg2, rfl⟩
  have hw2 : Word g2 := by rcases hg2 with rfl | h; exact hsg; exact word_wf h
  clear hg2
  go_wp2_with fail
  refine (apply_any f g1 m u i p (w.heap.size + 1 + 1 + 1 + 1 + 1 + 1 + 1 + 1) sf g2 sm su si sp _ (nine w _ _ _ _ _ _ _ _ _).2.2.1).mono ?_
  rintro e wa ⟨rfl, hb, hG⟩
  obtain ⟨n4, n7, n8, nb⟩ := nine w (.cells #[.int .u64 f, .int .u64 g, .int .i64 m, .int .i64 u, .string i, .string p] 24) (.cells #[.int .u64 sf, .int .u64 sg, .int .i64 sm, .int .i64 su, .string si, .string sp] 24) (.cells c1 24) (.cells c2 27) (.cells (setV f g1 m u i p) 27) (.cells c3 24) (.cells c4 27) (.cells (setV sf g2 sm su si sp) 27) (.cells (setV sf g2 sm su si sp) 27)
  have hO : wa.heap[w.heap.size + 1 + 1 + 1 + 1]? = some (.cells (setV f g1 m u i p) 27 (0, 0)) := (hb.block _ (by omega)).trans n4
  have hS : wa.heap[w.heap.size + 1 + 1 + 1 + 1 + 1 + 1 + 1]? = some (.cells (setV sf g2 sm su si sp) 27 (0, 0)) := (hb.block _ (by omega)).trans n7
  have hB : Below w.heap.size w wa := nb.trans (hb.mono (by omega))
  clear n4 n7 n8 nb hb
  have o0 := cell_row hO 0
  have o1 := cell_row hO 1
  have s0 := cell_row hS 0
  have s1 := cell_row hS 1
  have d0 := cell_row hG 0
  have d1 := cell_row hG 1
  simp only [setV, List.getElem?_toArray, List.getElem?_cons_zero, List.getElem?_cons_succ] at o0 o1 s0 s1 d0 d1
  have HO : Hid (wa.heap[w.heap.size + 1 + 1 + 1 + 1]? = some (.cells (setV f g1 m u i p) 27 (0, 0))) := hO
  have HS : Hid (wa.heap[w.heap.size + 1 + 1 + 1 + 1 + 1 + 1 + 1]? = some (.cells (setV sf g2 sm su si sp) 27 (0, 0))) := hS
  have HG := hide hG
  clear hO hS hG
  go_wp2
  go_loop [12, 13] (fun want i => ∃ k : Nat, k ≤ 64 ∧ i = .int .i64 k ∧ want = .int .u64 (part (mixF f g1 sf) k)) (fun _ i => 64 - (intOf i).toNat)
  case atStart => exact ⟨0, by omega, rfl, by rw [part_zero]⟩
  case round =>
    obtain ⟨k, hk, rfl, rfl⟩ := hrel
    by_cases hlt : k < 64
    · cases hbit : (bits .and .u64 g1 (IntKind.u64.wrap (2 ^ k)) != 0)
      · have HB := hide hbit
        go_wp2
        go_round
        case rel => exact ⟨k + 1, by omega, by go_num, by rw [step_no hf hw1 hsf hlt HB.out]⟩
        case measure => simp [intOf]; omega
      · have HB := hide hbit
        go_wp2
        go_round
        case rel => exact ⟨k + 1, by omega, by go_num, by rw [step_yes hf hw1 hsf hlt HB.out]⟩
        case measure => simp [intOf]; omega
    · obtain rfl : k = 64 := by omega
      have hfull := part_full (mix_word f g1 sf)
      go_wp2
      go_loop [15] (fun i => ∃ k : Nat, k ≤ 64 ∧ i = .int .i64 k) (fun i => 64 - (intOf i).toNat)
      case atStart => exact ⟨0, by omega, rfl⟩
      case round =>
        obtain ⟨k, hk2, rfl⟩ := hrel
        by_cases hl2 : k < 64
        · have hgb := given_bit hw1 hw2 hl2
          cases h1 : (bits .and .u64 g1 (IntKind.u64.wrap (2 ^ k)) != 0)
          · cases h2 : (bits .and .u64 g2 (IntKind.u64.wrap (2 ^ k)) != 0)
            · rw [h1, h2] at hgb
              simp only [Bool.or_self] at hgb
              go_wp2
              go_round
              case rel => exact ⟨k + 1, by omega, by go_num⟩
              case measure => simp [intOf]; omega
            · rw [h1, h2] at hgb
              simp only [Bool.or_true] at hgb
              go_wp2
              go_round
              case rel => exact ⟨k + 1, by omega, by go_num⟩
              case measure => simp [intOf]; omega
          · rw [h1] at hgb
            simp only [Bool.true_or] at hgb
            go_wp2
            go_round
            case rel => exact ⟨k + 1, by omega, by go_num⟩
            case measure => simp [intOf]; omega
        · have hk64 : k = 64 := by omega
          subst hk64
          clear hk2 hl2 hlt hk
          have o2 := cell_row HO.out 2
          have o3 := cell_row HO.out 3
          have o4 := cell_row HO.out 4
          have o5 := cell_row HO.out 5
          have s2 := cell_row HS.out 2
          have s3 := cell_row HS.out 3
          have s4 := cell_row HS.out 4
          have s5 := cell_row HS.out 5
          have d2 := cell_row HG.out 2
          have d3 := cell_row HG.out 3
          have d4 := cell_row HG.out 4
          have d5 := cell_row HG.out 5
          simp only [setV, List.getElem?_toArray, List.getElem?_cons_zero, List.getElem?_cons_succ] at o2 o3 o4 o5 s2 s3 s4 s5 d2 d3 d4 d5
          go_upto_if 89 with (go_at_call 8; refine (has8 _ _ _).mono ?_; rintro e w' ⟨rfl, rfl⟩)
          go_cut [18] (fun s w' => s = .iface 3 (.int .i64 (pickI (hasB g1 4294967296) m sm)) ∧ wa = w')
          case first =>
            cases hB : hasB g1 4294967296
            · go_wp2
              go_meet
              case rel => exact ⟨by rw [hB]; rfl, rfl⟩
            · go_wp2
              go_meet
              case rel => exact ⟨by rw [hB]; rfl, rfl⟩
          obtain ⟨rfl, rfl⟩ := hcut
          go_upto_if 96 with (go_at_call 8; refine (has8 _ _ _).mono ?_; rintro e w' ⟨rfl, rfl⟩)
          go_cut [19] (fun s w' => s = .iface 3 (.int .i64 (pickI (hasB g1 8589934592) u su)) ∧ wa = w')
          case first =>
            cases hB : hasB g1 8589934592
            · go_wp2
              go_meet
              case rel => exact ⟨by rw [hB]; rfl, rfl⟩
            · go_wp2
              go_meet
              case rel => exact ⟨by rw [hB]; rfl, rfl⟩
          obtain ⟨rfl, rfl⟩ := hcut
          go_upto_if 103 with (go_at_call 8; refine (has8 _ _ _).mono ?_; rintro e w' ⟨rfl, rfl⟩)
          go_cut [20] (fun s w' => s = .string (pickS (hasB g1 4096) i si) ∧ wa = w')
          case first =>
            cases hB : hasB g1 4096
            · go_wp2
              go_meet
              case rel => exact ⟨by rw [hB]; rfl, rfl⟩
            · go_wp2
              go_meet
              case rel => exact ⟨by rw [hB]; rfl, rfl⟩
          obtain ⟨rfl, rfl⟩ := hcut
          go_upto_if 110 with (go_at_call 8; refine (has8 _ _ _).mono ?_; rintro e w' ⟨rfl, rfl⟩)
          go_cut [21] (fun s w' => s = .string (pickS (hasB g1 8192) p sp) ∧ wa = w')
          case first =>
            cases hB : hasB g1 8192
            · go_wp2
              go_meet
              case rel => exact ⟨by rw [hB]; rfl, rfl⟩
            · go_wp2
              go_meet
              case rel => exact ⟨by rw [hB]; rfl, rfl⟩
          obtain ⟨rfl, rfl⟩ := hcut
          have he := eqlI
          go_wp2
          go_ret
          exact ⟨rfl, hB⟩

end Go.Proofs.Ybulkacti
