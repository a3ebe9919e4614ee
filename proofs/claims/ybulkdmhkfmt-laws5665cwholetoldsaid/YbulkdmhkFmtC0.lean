/-
  THE PLAIN LAW OF THE DRAWS (SplitMix64, multiply and reject) of 'draw.LawS5665CWhole', in the walk's own words: no Go run in sight.
-/
import Derived.WalkKit
namespace Go.Proofs.YbulkdmhkFmt
open Go.RowKit

/-- The state's step. -/
def stepI (s : Int) : Int := IntKind.u64.wrap (s + 11400714819323198485)
def mixA (z : Int) : Int := IntKind.u64.wrap (bits BinOp.xor IntKind.u64 z (z / 1073741824) * 13787848793156543929)
def mixB (z : Int) : Int := IntKind.u64.wrap (bits BinOp.xor IntKind.u64 z (z / 134217728) * 10723151780598845931)
/-- What a state gives. -/
def mixI (z : Int) : Int := bits BinOp.xor IntKind.u64 (mixB (mixA z)) (mixB (mixA z) / 2147483648)

/-- A number of 64 bits. -/
def U64 (s : Int) : Prop := 0 ≤ s ∧ s < 18446744073709551616
theorem stepI_u64 (s : Int) : U64 (stepI s) := by
  unfold stepI U64
  rw [IntKind.wrap_u64]
  omega
theorem mixI_u64 (s : Int) : U64 (mixI s) := by
  have h1 := bits_lo_u64 BinOp.xor (mixB (mixA s)) (mixB (mixA s) / 2147483648)
  have h2 := bits_hi_u64 BinOp.xor (mixB (mixA s)) (mixB (mixA s) / 2147483648)
  unfold U64 mixI
  omega

def hiOf (n z : Int) : Int := mixI z * n / 18446744073709551616
def loOf (n z : Int) : Int := mixI z * n % 18446744073709551616
def bias (n : Int) : Int := 18446744073709551616 % n
def it : Nat → Int → Int
  | 0, s => s
  | k + 1, s => stepI (it k s)
theorem it_u64 (k : Nat) (s : Int) (h : U64 s) : U64 (it k s) := by
  cases k with
  | zero => exact h
  | succ k => exact stepI_u64 _

/-- A draw below n from state s: the number, and the state behind it. -/
def Drawn (n s hi s' : Int) : Prop := ∃ t : Nat, (∀ i, i < t → loOf n (it (i + 1) s) < bias n) ∧ ¬ loOf n (it (t + 1) s) < bias n ∧ s' = it (t + 1) s ∧ hi = hiOf n s'

theorem Drawn.unique {n s h1 s1 h2 s2 : Int} (a : Drawn n s h1 s1) (b : Drawn n s h2 s2) : h1 = h2 ∧ s1 = s2 := by
  obtain ⟨t, a1, a2, rfl, rfl⟩ := a
  obtain ⟨u, b1, b2, rfl, rfl⟩ := b
  have : t = u := by
    rcases Nat.lt_trichotomy t u with h | h | h
    · exact absurd (b1 t h) a2
    · exact h
    · exact absurd (a1 u h) b2
  subst this
  exact ⟨rfl, rfl⟩
theorem Drawn.u64 {n s hi s' : Int} (h : Drawn n s hi s') : U64 s' := by
  obtain ⟨t, _, _, rfl, _⟩ := h
  exact stepI_u64 _
theorem hiOf_lt {n z : Int} (hn : 1 ≤ n) : 0 ≤ hiOf n z ∧ hiOf n z < n := by
  have m := mixI_u64 z
  unfold U64 at m
  unfold hiOf
  refine ⟨Int.ediv_nonneg (Int.mul_nonneg m.1 (by omega)) (by omega), Int.ediv_lt_of_lt_mul (by omega) ?_⟩
  rw [Int.mul_comm n]
  exact Int.mul_lt_mul_of_pos_right m.2 (by omega)
theorem Drawn.lt {n s hi s' : Int} (h : Drawn n s hi s') (hn : 1 ≤ n) : 0 ≤ hi ∧ hi < n := by
  obtain ⟨t, _, _, _, rfl⟩ := h
  exact hiOf_lt hn
theorem bias_lt {n : Int} (hn : 1 ≤ n) : 0 ≤ bias n ∧ bias n < n := ⟨Int.emod_nonneg _ (by omega), Int.emod_lt_of_pos _ (by omega)⟩

/-! ### The rejection ends -/
theorem it_eq (s : Int) (hs : U64 s) : ∀ k : Nat, it k s = (s + (k : Int) * 11400714819323198485) % 18446744073709551616
  | 0 => by
    unfold U64 at hs
    simp only [it]
    omega
  | k + 1 => by
    simp only [it, stepI, IntKind.wrap_u64]
    rw [it_eq s hs k]
    omega

/-- The state whose number is 1. -/
def oneAt : Int := 10839530715563148754
theorem mix_one : mixI oneAt = 1 := by decide +kernel

theorem comes_to (s : Int) (hs : U64 s) : ∃ t : Nat, it (t + 1) s = oneAt := by
  have hk0 : 0 ≤ (oneAt - s) * 17428512612931826493 % 18446744073709551616 := Int.emod_nonneg _ (by omega)
  obtain ⟨K, hK⟩ : ∃ K : Nat, (K : Int) = (oneAt - s) * 17428512612931826493 % 18446744073709551616 + 18446744073709551616 := ⟨((oneAt - s) * 17428512612931826493 % 18446744073709551616 + 18446744073709551616).toNat, by omega⟩
  refine ⟨K - 1, ?_⟩
  rw [show K - 1 + 1 = K by omega, it_eq s hs K]
  have e1 : (K : Int) % 18446744073709551616 = (oneAt - s) * 17428512612931826493 % 18446744073709551616 := by omega
  have e2 : (K : Int) * 11400714819323198485 % 18446744073709551616 = (oneAt - s) % 18446744073709551616 := by
    rw [Int.mul_emod, e1, ← Int.mul_emod, Int.mul_assoc, Int.mul_emod]
    have : (17428512612931826493 * 11400714819323198485 : Int) % 18446744073709551616 = 1 := by decide
    rw [this, Int.mul_one, Int.emod_emod]
  rw [Int.add_emod, e2, ← Int.add_emod]
  have : s + (oneAt - s) = oneAt := by omega
  rw [this]
  decide

theorem ends (n s : Int) (hs : U64 s) (hn : 1 ≤ n) (hn' : n < 18446744073709551616) : ∃ t : Nat, ¬ loOf n (it (t + 1) s) < bias n := by
  obtain ⟨t, ht⟩ := comes_to s hs
  refine ⟨t, ?_⟩
  rw [ht]
  have e : loOf n oneAt = n := by
    unfold loOf
    rw [mix_one, Int.one_mul]
    omega
  rw [e]
  have := bias_lt hn
  omega

/-- 2^64 mod n, as the library's text reckons it, and as the law's does. -/
theorem bias_lib (n : Int) (hn : 1 ≤ n) (hn' : n < 18446744073709551616) : IntKind.u64.wrap (-n) % n = bias n := by
  unfold bias
  have e : IntKind.u64.wrap (-n) = 18446744073709551616 - n := by rw [IntKind.wrap_u64]; omega
  rw [e, Int.sub_emod, Int.emod_self, Int.sub_zero, Int.emod_emod]
theorem bias_law (n : Int) : (18446744073709551615 % n + 1) % n = bias n := by
  unfold bias
  have e : (18446744073709551616 : Int) = 18446744073709551615 + 1 := by omega
  rw [e, Int.add_emod 18446744073709551615 1 n, Int.add_emod (18446744073709551615 % n) 1 n, Int.emod_emod]
end Go.Proofs.YbulkdmhkFmt
