/-
  The contracts of the functions on the road of the two laws over 'appendRecord'.
-/
import Derived.Test.YbulkacqcRows
import Derived.WalkKit
import Derived.WalkSpells
import Derived.WalkLawsBesides
import Derived.Laws.AppendOwnNone
import Derived.Laws.BytesArg
namespace Go.Proofs.Ybulkacqc
open Go.RowKit

theorem Yba.info5 : (Yba.prog.info? 5).map (fun i => (i.zero, i.size, i.bytes)) = some (some (.int .u8 0), 1, 1) := by kernel_rfl

/-- A row of bytes, as cells. -/
def bc (zs : List Int) : List Value := zs.map (Value.int .u8)
theorem bc_length (zs : List Int) : (bc zs).length = zs.length := by simp [bc]
theorem bc_append (a b : List Int) : bc (a ++ b) = bc a ++ bc b := by simp [bc]
theorem bc_one (zs : List Int) : ∀ u ∈ bc zs, u.oneCell' = true := by
  intro u hu
  simp only [bc, List.mem_map] at hu
  obtain ⟨z, _, rfl⟩ := hu
  rfl

/-- The four bytes of a uint32, the least first. -/
def le4 (v : Int) : List Int := [v % 256, v / 256 % 256, v / 65536 % 256, v / 16777216]
theorem le4_length (v : Int) : (le4 v).length = 4 := rfl
theorem bc_le4 (v : Int) : bc (le4 v) = [Value.int .u8 (v % 256), Value.int .u8 (v / 256 % 256), Value.int .u8 (v / 65536 % 256), Value.int .u8 (v / 16777216)] := rfl

/-- A slice of bytes whose memory lies below block B: nil, or an address with its cells. -/
structure Src (B : Nat) (w : World) (a : Option Addr) (len cap : Nat) (zs : List Int) : Prop where
  length : zs.length = len
  nil : a = none → len = 0 ∧ cap = 0
  cell : ∀ x, a = some x → ∀ j u, (bc zs)[j]? = some u → w.cell? (x.add j) = some u ∧ x.block < B

theorem add_block (x : Addr) (j : Nat) : (x.add j).block = x.block := by unfold Addr.add; split <;> rfl

theorem Src.below {B : Nat} {w w' : World} {a : Option Addr} {len cap : Nat} {zs : List Int} (h : Src B w a len cap zs) (hb : Below B w w') : Src B w' a len cap zs :=
  ⟨h.length, h.nil, fun x hx j u hu => ⟨by rw [hb.cell (by rw [add_block]; exact (h.cell x hx j u hu).2)]; exact (h.cell x hx j u hu).1, (h.cell x hx j u hu).2⟩⟩

theorem Src.mono {B B' : Nat} {w : World} {a : Option Addr} {len cap : Nat} {zs : List Int} (h : Src B w a len cap zs) (hB : B ≤ B') : Src B' w a len cap zs :=
  ⟨h.length, h.nil, fun x hx j u hu => ⟨(h.cell x hx j u hu).1, by have := (h.cell x hx j u hu).2; omega⟩⟩

set_option maxHeartbeats 1000000 in
/-- (littleEndian).AppendUint32 onto a slice of the call's own. -/
theorem au32 (B n : Nat) (v : Int) (hv0 : 0 ≤ v) (hv : v < 4294967296) (sv : Value) (zs : List Int) (w : World) (hown : w.ownsRow B 5 1 sv n (bc zs)) (hBw : B ≤ w.heap.size) (hlim : n + 4 ≤ 140737488355328) :
    Calls Yba.prog 9 #[.agg #[], sv, .int .u32 v] w fun e w' => ∃ v', e = .returned v' ∧ w'.ownsRow B 5 1 v' (n + 4) (bc (zs ++ le4 v)) ∧ Below B w w' := by
  obtain ⟨i0, hi, hz0, hz1, hz2⟩ := info_parts Yba.info5
  rw [bc_append]
  go_enter Yba.func9, Yba.ntmps9
  go_wp2_with (at_builtin; refine wpList_append_own _ rfl _ _ 22 rfl B 5 i0 (.int .u8 0) 1 1 Yba.underlying22 hi hz0 hz1 hz2 rfl (by decide) _ _ _ rfl ((hown.alloc _).alloc _) _ 4 4 (bc (le4 v)) rfl rfl ?c1 ?c2 ?c3 ?c4 ?c5 ?_)
  case c1 =>
    intro j u hj
    rw [bc_le4] at hj
    match j, hj with
    | 0, hj => simp at hj; subst hj; simp [Addr.add]
    | 1, hj => simp at hj; subst hj; simp [Addr.add]
    | 2, hj => simp at hj; subst hj; simp [Addr.add]
    | 3, hj => simp at hj; subst hj; simp [Addr.add]
  case c2 => exact bc_one _
  case c3 => unfold maxLen; omega
  case c4 => omega
  case c5 => simp; omega
  intro v' w2 hown' hgrow _
  go_wp2
  go_ret
  refine ⟨v', rfl, hown', ?_⟩
  exact ((((Below.refl B w).alloc hBw _).alloc (by simp; omega) _).grown hgrow (by simp; omega) (fun k hk => (hown.lt k hk).1))

/-- The record of a property: id, 1 and the value's length as little-endian uint32s, then the value. -/
def record (id : Int) (zs : List Int) : List Int := le4 id ++ le4 1 ++ le4 zs.length ++ zs
theorem record_length (id : Int) (zs : List Int) : (record id zs).length = 12 + zs.length := by simp [record, le4_length]; omega

theorem rec_row {w : World} {B n len : Nat} {v : Value} {id : Int} {xs zs : List Int} (hl : zs.length = len)
    (h : w.ownsRow B 5 1 v (n + 4 + 4 + 4 + len) (bc (xs ++ (le4 id ++ (le4 1 ++ le4 len))) ++ bc zs)) : w.ownsRow B 5 1 v (n + 12 + len) (bc (xs ++ record id zs)) := by
  rw [← bc_append] at h
  rw [show n + 12 + len = n + 4 + 4 + 4 + len from by omega, show xs ++ record id zs = xs ++ (le4 id ++ (le4 1 ++ le4 len)) ++ zs from by simp [record, hl]]
  exact h

set_option maxHeartbeats 1000000 in
theorem rec_some (B n : Nat) (id : Int) (h0 : 0 ≤ id) (h1 : id < 4294967296) (sv : Value) (xs : List Int) (x : Addr) (len cap : Nat) (zs : List Int) (w : World)
    (hown : w.ownsRow B 5 1 sv n (bc xs)) (hBw : B ≤ w.heap.size) (hs : Src B w (some x) len cap zs) (hlen : len ≤ 65536) (hlim : n ≤ 1000000) :
    Calls Yba.prog 6 #[sv, .int .u32 id, .slice (some x) len cap] w fun e w' => ∃ v', e = .returned v' ∧ w'.ownsRow B 5 1 v' (n + 12 + len) (bc (xs ++ record id zs)) ∧ Below B w w' := by
  obtain ⟨i0, hi, hz0, hz1, hz2⟩ := info_parts Yba.info5
  go_enter Yba.func6, Yba.ntmps6
  go_wp2_with fail
  refine (au32 B n id h0 h1 sv xs _ (by first | exact hown | exact hown.drew) (by simpa using hBw) (by omega)).mono ?_
  rintro e w1 ⟨v1, rfl, ho1, hb1⟩
  go_wp2_with fail
  refine (au32 B (n + 4) 1 (by decide) (by decide) v1 _ _ ho1 (by have := hb1.size; omega) (by omega)).mono ?_
  rintro e w2 ⟨v2, rfl, ho2, hb2⟩
  go_wp2_with fail
  refine (au32 B (n + 4 + 4) len (by omega) (by omega) v2 _ _ ho2 (by have := hb1.size; have := hb2.size; omega) (by omega)).mono ?_
  rintro e w3 ⟨v3, rfl, ho3, hb3⟩
  have hb := (hb1.trans hb2).trans hb3
  have hs3 := hs.below hb
  clear hs ho1 ho2 hown hb1 hb2 hb3
  go_wp2_with (at_builtin; refine wpList_append_own _ rfl _ _ 22 rfl B 5 i0 (.int .u8 0) 1 1 Yba.underlying22 hi hz0 hz1 hz2 rfl (by decide) _ _ _ rfl ho3 x len cap (bc zs) rfl ?c0 ?c1 ?c2 ?c3 ?c4 ?c5 ?_)
  case c0 => rw [bc_length, hs3.length]; omega
  case c1 => intro j u hj; exact (hs3.cell x rfl j u hj).1
  case c2 => exact bc_one _
  case c3 => unfold maxLen; omega
  case c4 => omega
  case c5 => have := hb.size; omega
  intro v' w4 hown' hgrow _
  go_wp2
  go_ret
  refine ⟨v', rfl, rec_row hs3.length hown', ?_⟩
  exact hb.grown hgrow (by have := hb.size; omega) (fun k hk => (ho3.lt k hk).1)

set_option maxHeartbeats 1000000 in
theorem rec_none (B n : Nat) (id : Int) (h0 : 0 ≤ id) (h1 : id < 4294967296) (sv : Value) (xs : List Int) (w : World)
    (hown : w.ownsRow B 5 1 sv n (bc xs)) (hBw : B ≤ w.heap.size) (hlim : n ≤ 1000000) :
    Calls Yba.prog 6 #[sv, .int .u32 id, .slice none 0 0] w fun e w' => ∃ v', e = .returned v' ∧ w'.ownsRow B 5 1 v' (n + 12) (bc (xs ++ record id [])) ∧ Below B w w' := by
  obtain ⟨i0, hi, hz0, hz1, hz2⟩ := info_parts Yba.info5
  go_enter Yba.func6, Yba.ntmps6
  go_wp2_with fail
  refine (au32 B n id h0 h1 sv xs _ (by first | exact hown | exact hown.drew) (by simpa using hBw) (by omega)).mono ?_
  rintro e w1 ⟨v1, rfl, ho1, hb1⟩
  go_wp2_with fail
  refine (au32 B (n + 4) 1 (by decide) (by decide) v1 _ _ ho1 (by have := hb1.size; omega) (by omega)).mono ?_
  rintro e w2 ⟨v2, rfl, ho2, hb2⟩
  go_wp2_with fail
  refine (au32 B (n + 4 + 4) 0 (by omega) (by omega) v2 _ _ ho2 (by have := hb1.size; have := hb2.size; omega) (by omega)).mono ?_
  rintro e w3 ⟨v3, rfl, ho3, hb3⟩
  have hb := (hb1.trans hb2).trans hb3
  clear ho1 ho2 hown hb1 hb2 hb3
  go_wp2_with (at_builtin; refine wpList_append_own_none rfl _ _ 22 rfl B 5 i0 1 Yba.underlying22 hi _ _ _ rfl ho3 rfl ?_)
  go_ret
  refine ⟨_, rfl, rec_row (zs := []) (len := 0) rfl (by simpa [bc] using ho3), hb⟩

theorem rec_any (B n : Nat) (id : Int) (h0 : 0 ≤ id) (h1 : id < 4294967296) (sv : Value) (xs : List Int) (a : Option Addr) (len cap : Nat) (zs : List Int) (w : World)
    (hown : w.ownsRow B 5 1 sv n (bc xs)) (hBw : B ≤ w.heap.size) (hs : Src B w a len cap zs) (hlen : len ≤ 65536) (hlim : n ≤ 1000000) :
    Calls Yba.prog 6 #[sv, .int .u32 id, .slice a len cap] w fun e w' => ∃ v', e = .returned v' ∧ w'.ownsRow B 5 1 v' (n + 12 + len) (bc (xs ++ record id zs)) ∧ Below B w w' := by
  cases a with
  | some x => exact rec_some B n id h0 h1 sv xs x len cap zs w hown hBw hs hlen hlim
  | none =>
    obtain ⟨rfl, rfl⟩ := hs.nil rfl
    have hz : zs = [] := List.eq_nil_of_length_eq_zero hs.length
    subst hz
    exact rec_none B n id h0 h1 sv xs w hown hBw hlim

set_option maxHeartbeats 1000000 in
/-- The law's own 'put': four bytes, the least first. -/
theorem put_any (B n : Nat) (v : Int) (hv0 : 0 ≤ v) (hv : v < 4294967296) (sv : Value) (zs : List Int) (w : World) (hown : w.ownsRow B 5 1 sv n (bc zs)) (hBw : B ≤ w.heap.size) (hlim : n + 4 ≤ 140737488355328) :
    Calls Yba.prog 7 #[sv, .int .u32 v] w fun e w' => ∃ v', e = .returned v' ∧ w'.ownsRow B 5 1 v' (n + 4) (bc (zs ++ le4 v)) ∧ Below B w w' := by
  obtain ⟨i0, hi, hz0, hz1, hz2⟩ := info_parts Yba.info5
  rw [bc_append]
  go_enter Yba.func7, Yba.ntmps7
  go_wp2_with (at_builtin; refine wpList_append_own _ rfl _ _ 22 rfl B 5 i0 (.int .u8 0) 1 1 Yba.underlying22 hi hz0 hz1 hz2 rfl (by decide) _ _ _ rfl (hown.alloc _) _ 4 4 (bc (le4 v)) rfl rfl ?c1 ?c2 ?c3 ?c4 ?c5 ?_)
  case c1 =>
    intro j u hj
    rw [bc_le4] at hj
    match j, hj with
    | 0, hj => simp at hj; subst hj; simp [Addr.add]
    | 1, hj => simp at hj; subst hj; simp [Addr.add]
    | 2, hj => simp at hj; subst hj; simp [Addr.add]
    | 3, hj => simp at hj; subst hj; simp [Addr.add]
  case c2 => exact bc_one _
  case c3 => unfold maxLen; omega
  case c4 => omega
  case c5 => simp; omega
  intro v' w2 hown' hgrow _
  go_wp2
  go_ret
  refine ⟨v', rfl, hown', ?_⟩
  exact (((Below.refl B w).alloc hBw _).grown hgrow (by simp; omega) (fun k hk => (hown.lt k hk).1))

/-- A row that is owned and not empty is a slice at an address. -/
theorem own_some {w : World} {B n : Nat} {v : Value} {zs : List Int} (h : w.ownsRow B 5 1 v n (bc zs)) (hn : 0 < n) :
    zs.length = n ∧ ∃ g c, v = .slice (some ⟨g, 0, none⟩) n c ∧ (∀ i, i < n → w.cell? ⟨g, 0 + i, none⟩ = some (.int .u8 (zs.getD i 0))) := by
  have hl : zs.length = n := by have := h.1; rw [bc_length] at this; omega
  refine ⟨hl, ?_⟩
  rcases h.2 with ⟨_, h0⟩ | ⟨g, c, cur, rfl, _⟩
  · omega
  · refine ⟨g, c, rfl, fun i hi => ?_⟩
    have hb : (bc zs)[i]? = some (.int .u8 (zs.getD i 0)) := by
      simp [bc, List.getD, List.getElem?_eq_getElem (show i < zs.length by omega)]
    have := h.cells (g := g) rfl i _ hb
    rwa [Addr.add_lit] at this

set_option maxHeartbeats 1000000 in
/-- bytes.Equal at two rows of the call's own that hold the same bytes. -/
theorem equal_same (B1 B2 n : Nat) (v1 v2 : Value) (zs : List Int) (w : World) (hn : 0 < n) (h1 : w.ownsRow B1 5 1 v1 n (bc zs)) (h2 : w.ownsRow B2 5 1 v2 n (bc zs)) :
    Calls Yba.prog 8 #[v1, v2] w fun e w' => e = .returned (.bool true) ∧ w' = w := by
  obtain ⟨hl, g1, c1, rfl, hc1⟩ := own_some h1 hn
  obtain ⟨_, g2, c2, rfl, hc2⟩ := own_some h2 hn
  have k1 := run_convert_bytes_arg (P := Yba.prog) w 22 5 Yba.underlying22 Yba.underlying5 g1 0 n c1 zs hl hc1 9 Yba.underlying9
  have k2 := run_convert_bytes_arg (P := Yba.prog) w 22 5 Yba.underlying22 Yba.underlying5 g2 0 n c2 zs hl hc2 9 Yba.underlying9
  clear h1 h2 hc1 hc2
  go_enter Yba.func8, Yba.ntmps8
  go_wp2
  go_ret
  exact ⟨rfl, rfl⟩

end Go.Proofs.Ybulkacqc
