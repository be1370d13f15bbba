/-
  The plain law on bits: no Go in sight.
-/
import Derived.Laws.BitsAllLaws
import Derived.OpenShut
namespace Go.Proofs.Ybulkacti
open Go.RowKit

def mixF (f g sf : Int) : Int := bits .or .u64 (bits .andNot .u64 sf g) (bits .and .u64 f g)
def orG (g sg : Int) : Int := bits .or .u64 sg g
/-- The lowest k bits. -/
def part (m : Int) (k : Nat) : Int := m % 2 ^ k

def Word (x : Int) : Prop := 0 ≤ x ∧ x < 18446744073709551616

theorem word_nat {x : Int} (h : Word x) : ∃ n : Nat, x = (n : Int) ∧ n < 18446744073709551616 := by
  obtain ⟨h0, h1⟩ := h
  exact ⟨x.toNat, by omega, by omega⟩

theorem word_wf {x : Int} (h : (Lit.int .u64 x).wf = true) : Word x := by
  have := bounds_u64 h
  exact ⟨by omega, by omega⟩

theorem wrap_bit (k : Nat) (hk : k < 64) : IntKind.u64.wrap (2 ^ k) = ((2 ^ k : Nat) : Int) := by
  have h : (2 : Nat) ^ k < 2 ^ 64 := Nat.pow_lt_pow_right (by decide) hk
  have e : ((2 : Int) ^ k) = ((2 ^ k : Nat) : Int) := by simp
  rw [IntKind.wrap_u64, e]
  have h' : ((2 ^ k : Nat) : Int) < 18446744073709551616 := by
    have : (2 : Nat) ^ 64 = 18446744073709551616 := by decide
    omega
  exact Int.emod_eq_of_lt (Int.natCast_nonneg _) h'

theorem bit_lt (k : Nat) (hk : k < 64) : (2 : Nat) ^ k < 18446744073709551616 := by
  have h : (2 : Nat) ^ k < 2 ^ 64 := Nat.pow_lt_pow_right (by decide) hk
  have : (2 : Nat) ^ 64 = 18446744073709551616 := by decide
  omega

theorem and_lt {a b : Nat} (ha : a < 18446744073709551616) : a &&& b < 18446744073709551616 := Nat.lt_of_le_of_lt Nat.and_le_left ha

theorem or_lt {a b : Nat} (ha : a < 18446744073709551616) (hb : b < 18446744073709551616) : a ||| b < 18446744073709551616 := by
  have e : (18446744073709551616 : Nat) = 2 ^ 64 := by decide
  rw [e] at ha hb ⊢
  exact Nat.or_lt_two_pow ha hb

theorem mixF_nat (f g s : Nat) (hf : f < 18446744073709551616) (hg : g < 18446744073709551616) (hs : s < 18446744073709551616) :
    mixF (f : Int) (g : Int) (s : Int) = ((s &&& (18446744073709551615 - g) ||| f &&& g : Nat) : Int) := by
  unfold mixF
  rw [u64_andNot_nat s g hs hg, u64_and_nat f g hf hg, u64_or_nat _ _ (and_lt hs) (and_lt hf)]

theorem orG_nat (g s : Nat) (hg : g < 18446744073709551616) (hs : s < 18446744073709551616) : orG (g : Int) (s : Int) = ((s ||| g : Nat) : Int) := by
  unfold orG
  rw [u64_or_nat s g hs hg]

theorem part_nat (m k : Nat) : part (m : Int) k = ((m % 2 ^ k : Nat) : Int) := by
  unfold part
  simp

theorem part_zero (m : Int) : part m 0 = 0 := by
  unfold part
  simp

theorem part_full {m : Int} (h : Word m) : part m 64 = m := by
  unfold part
  exact Int.emod_eq_of_lt h.1 h.2

theorem step_nat (m x k : Nat) (h : m.testBit k = x.testBit k) : (m % 2 ^ k) ||| (x &&& 2 ^ k) = m % 2 ^ (k + 1) := by
  apply Nat.eq_of_testBit_eq
  intro j
  simp only [Nat.testBit_or, Nat.testBit_and, Nat.testBit_mod_two_pow, Nat.testBit_two_pow]
  by_cases hj : k = j
  · subst hj; simp [h]
  · by_cases hl : j < k
    · have h1 : j < k + 1 := by omega
      simp [hj, hl, h1]
    · have h1 : ¬ j < k + 1 := by omega
      simp [hj, hl, h1]

theorem not_bit (g k : Nat) (hg : g < 18446744073709551616) (hk : k < 64) : (18446744073709551615 - g).testBit k = !g.testBit k := by
  have e : (18446744073709551616 : Nat) = 2 ^ 64 := by decide
  have e2 : 18446744073709551615 - g = 2 ^ 64 - (g + 1) := by omega
  rw [e2, Nat.testBit_two_pow_sub_succ (by omega)]
  simp [hk]

theorem mix_bit (f g s k : Nat) (hg : g < 18446744073709551616) (hk : k < 64) :
    (s &&& (18446744073709551615 - g) ||| f &&& g).testBit k = if g.testBit k then f.testBit k else s.testBit k := by
  rw [Nat.testBit_or, Nat.testBit_and, Nat.testBit_and, not_bit g k hg hk]
  cases g.testBit k <;> simp

theorem and_bit_ne (g k : Nat) : (((g &&& 2 ^ k : Nat) : Int) != 0) = g.testBit k := by
  have h : (g &&& 2 ^ k = 0) ↔ g.testBit k = false := by
    constructor
    · intro h
      have := congrArg (fun n => n.testBit k) h
      simpa [Nat.testBit_and, Nat.testBit_two_pow] using this
    · intro h
      apply Nat.eq_of_testBit_eq
      intro j
      simp only [Nat.testBit_and, Nat.testBit_two_pow, Nat.zero_testBit]
      by_cases hj : k = j
      · subst hj; simp [h]
      · simp [hj]
  cases hb : g.testBit k with
  | false =>
    have := h.2 hb
    simp [this]
  | true =>
    have : ¬ (g &&& 2 ^ k = 0) := fun e => by rw [h.1 e] at hb; cases hb
    simp only [bne_iff_ne, ne_eq]
    omega

/-- One round of the first loop, the bit given. -/
theorem step_yes {f g s : Int} (hf : Word f) (hg : Word g) (hs : Word s) {k : Nat} (hk : k < 64) (h : (bits .and .u64 g (IntKind.u64.wrap (2 ^ k)) != 0) = true) :
    bits .or .u64 (part (mixF f g s) k) (bits .and .u64 f (IntKind.u64.wrap (2 ^ k))) = part (mixF f g s) (k + 1) := by
  obtain ⟨f, rfl, nf⟩ := word_nat hf
  obtain ⟨g, rfl, ng⟩ := word_nat hg
  obtain ⟨s, rfl, ns⟩ := word_nat hs
  rw [wrap_bit k hk, u64_and_nat _ _ ng (bit_lt k hk), and_bit_ne] at h
  rw [wrap_bit k hk, u64_and_nat _ _ nf (bit_lt k hk), mixF_nat f g s nf ng ns, part_nat, part_nat, u64_or_nat _ _ (Nat.lt_of_le_of_lt (Nat.mod_le _ _) (or_lt (and_lt ns) (and_lt nf))) (and_lt nf), step_nat _ _ _ (by rw [mix_bit f g s k ng hk, h]; rfl)]

/-- One round of the first loop, the bit not given. -/
theorem step_no {f g s : Int} (hf : Word f) (hg : Word g) (hs : Word s) {k : Nat} (hk : k < 64) (h : (bits .and .u64 g (IntKind.u64.wrap (2 ^ k)) != 0) = false) :
    bits .or .u64 (part (mixF f g s) k) (bits .and .u64 s (IntKind.u64.wrap (2 ^ k))) = part (mixF f g s) (k + 1) := by
  obtain ⟨f, rfl, nf⟩ := word_nat hf
  obtain ⟨g, rfl, ng⟩ := word_nat hg
  obtain ⟨s, rfl, ns⟩ := word_nat hs
  rw [wrap_bit k hk, u64_and_nat _ _ ng (bit_lt k hk), and_bit_ne] at h
  rw [wrap_bit k hk, u64_and_nat _ _ ns (bit_lt k hk), mixF_nat f g s nf ng ns, part_nat, part_nat, u64_or_nat _ _ (Nat.lt_of_le_of_lt (Nat.mod_le _ _) (or_lt (and_lt ns) (and_lt nf))) (and_lt ns), step_nat _ _ _ (by rw [mix_bit f g s k ng hk, h]; rfl)]

theorem mix_word (f g s : Int) : Word (mixF f g s) := word_wf (wf_bits _ _ _ _)

/-- The second loop's test. -/
theorem given_bit {g s : Int} (hg : Word g) (hs : Word s) {k : Nat} (hk : k < 64) :
    (bits .and .u64 (orG g s) (IntKind.u64.wrap (2 ^ k)) != 0) = ((bits .and .u64 g (IntKind.u64.wrap (2 ^ k)) != 0) || (bits .and .u64 s (IntKind.u64.wrap (2 ^ k)) != 0)) := by
  obtain ⟨g, rfl, ng⟩ := word_nat hg
  obtain ⟨s, rfl, ns⟩ := word_nat hs
  rw [wrap_bit k hk, orG_nat g s ng ns, u64_and_nat _ _ (or_lt ns ng) (bit_lt k hk), u64_and_nat _ _ ng (bit_lt k hk), u64_and_nat _ _ ns (bit_lt k hk), and_bit_ne, and_bit_ne, and_bit_ne, Nat.testBit_or, Bool.or_comm]

end Go.Proofs.Ybulkacti
