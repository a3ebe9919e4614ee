import Derived.Test.YbulkdmhkFmtProg
import Derived.Test.YbulkdmhkFmtC0
import Derived.WalkKit
import Derived.WalkLawsBesides
import Derived.WalkSpells
import Derived.Outline
import Derived.Lib.Mul64
import Derived.Laws.Bits64b
import Derived.Deep.LoopGhost
namespace Go.Proofs.YbulkdmhkFmt
open Go.RowKit

set_option maxHeartbeats 800000 in
theorem next23 (X : Nat) (s : Int) (w : World) (hc : w.cell? ⟨X, 0, none⟩ = some (.int .u64 s)) (hf : w.frozen? ⟨X, 0, none⟩ = false) :
    Calls Ybaf.prog 23 #[.pointer (some ⟨X, 0, none⟩)] w fun e w' => e = .returned (.int .u64 (mixI (stepI s))) ∧ w' = w.setCell ⟨X, 0, none⟩ (.int .u64 (stepI s)) := by
  go_enter Ybaf.func23, Ybaf.ntmps23
  go_wp2
  go_ret
  exact ⟨rfl, rfl⟩
set_option maxHeartbeats 800000 in
theorem next16 (X : Nat) (s : Int) (w : World) (hc : w.cell? ⟨X, 0, none⟩ = some (.int .u64 s)) (hf : w.frozen? ⟨X, 0, none⟩ = false) :
    Calls Ybaf.prog 16 #[.pointer (some ⟨X, 0, none⟩)] w fun e w' => e = .returned (.int .u64 (mixI (stepI s))) ∧ w' = w.setCell ⟨X, 0, none⟩ (.int .u64 (stepI s)) := by
  go_enter Ybaf.func16, Ybaf.ntmps16
  go_wp2
  go_ret
  exact ⟨rfl, rfl⟩

theorem maskN (a : Nat) (ha : a < 18446744073709551616) : bits .and .u64 (a : Int) 4294967295 = ((a % 4294967296 : Nat) : Int) := by
  have h := bits_and_u64_nat a 4294967295 ha (by omega)
  have e : a &&& 4294967295 = a % 4294967296 := Nat.and_two_pow_sub_one_eq_mod a 32
  rw [e] at h
  exact h
theorem divN (a : Nat) : (a : Int) / 4294967296 = ((a / 4294967296 : Nat) : Int) := by omega
theorem mulN (a b : Nat) : (a : Int) * (b : Int) = ((a * b : Nat) : Int) := (Int.natCast_mul a b).symm
theorem addN (a b : Nat) : (a : Int) + (b : Int) = ((a + b : Nat) : Int) := (Int.natCast_add a b).symm
theorem wrapN (a : Nat) (ha : a < 18446744073709551616) : IntKind.u64.wrap (a : Int) = (a : Int) := by rw [IntKind.wrap_u64]; omega
theorem wrapM (a : Nat) : IntKind.u64.wrap (a : Int) = ((a % 18446744073709551616 : Nat) : Int) := by rw [IntKind.wrap_u64]; omega

set_option maxHeartbeats 1000000 in
theorem mul64_nat (x y : Nat) (hx : x < 18446744073709551616) (hy : y < 18446744073709551616) (w : World) :
    Calls Ybaf.prog 15 #[.int .u64 x, .int .u64 y] w fun e w' => e = .returned (.tuple #[.int .u64 ((x * y / 18446744073709551616 : Nat) : Int), .int .u64 ((x * y % 18446744073709551616 : Nat) : Int)]) ∧ w' = w := by
  obtain ⟨bd, bt, bw, hhi⟩ := Lib.mul64_hi x y hx hy
  have ba := Lib.half_mul_le (a := x / 4294967296) (b := y / 4294967296) (by omega) (by omega)
  have bb := Lib.half_mul_le (a := x / 4294967296) (b := y % 4294967296) (by omega) (by omega)
  have bc := Lib.half_mul_le (a := x % 4294967296) (b := y / 4294967296) (by omega) (by omega)
  have ba' : x / 4294967296 * (y / 4294967296) < 18446744073709551616 := by omega
  have bb' : x / 4294967296 * (y % 4294967296) < 18446744073709551616 := by omega
  have bc' : x % 4294967296 * (y / 4294967296) < 18446744073709551616 := by omega
  have bh1 : x / 4294967296 * (y / 4294967296) + (x / 4294967296 * (y % 4294967296) + x % 4294967296 * (y % 4294967296) / 4294967296) / 4294967296 < 18446744073709551616 := by omega
  have bh : x / 4294967296 * (y / 4294967296) + (x / 4294967296 * (y % 4294967296) + x % 4294967296 * (y % 4294967296) / 4294967296) / 4294967296 + ((x / 4294967296 * (y % 4294967296) + x % 4294967296 * (y % 4294967296) / 4294967296) % 4294967296 + x % 4294967296 * (y / 4294967296)) / 4294967296 < 18446744073709551616 := by omega
  go_enter Ybaf.func15, Ybaf.ntmps15
  go_wp2
  simp only [maskN x hx, maskN y hy, divN, mulN, addN, wrapN _ bd, wrapN _ bb', wrapN _ bt, maskN _ bt, wrapN _ bc', wrapN _ bw, wrapN _ ba', wrapN _ bh1, wrapN _ bh, wrapM (x * y)]
  rw [hhi]
  go_ret2
  exact ⟨rfl, rfl⟩

theorem mul64_any (z n : Int) (hn : 0 ≤ n) (hn' : n < 18446744073709551616) (w : World) :
    Calls Ybaf.prog 15 #[.int .u64 (mixI z), .int .u64 n] w fun e w' => e = .returned (.tuple #[.int .u64 (hiOf n z), .int .u64 (loOf n z)]) ∧ w' = w := by
  have m := mixI_u64 z
  unfold U64 at m
  unfold hiOf loOf
  generalize mixI z = x at m
  obtain ⟨a, rfl⟩ : ∃ a : Nat, x = (a : Int) := ⟨x.toNat, by omega⟩
  obtain ⟨b, rfl⟩ : ∃ b : Nat, n = (b : Int) := ⟨n.toNat, by omega⟩
  refine (mul64_nat a b (by omega) (by omega) w).mono fun e w' ⟨he, hw⟩ => ⟨?_, hw⟩
  rw [he]
  have e1 : ((a * b / 18446744073709551616 : Nat) : Int) = (a : Int) * (b : Int) / 18446744073709551616 := by rw [← Int.natCast_mul]; omega
  have e2 : ((a * b % 18446744073709551616 : Nat) : Int) = (a : Int) * (b : Int) % 18446744073709551616 := by rw [← Int.natCast_mul]; omega
  rw [e1, e2]
end Go.Proofs.YbulkdmhkFmt
