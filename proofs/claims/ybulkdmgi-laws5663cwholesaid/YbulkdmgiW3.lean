import Derived.Test.YbulkdmgiW2
import Derived.RegionTactic
import Derived.BigRegion
import Derived.Deep.QuietTactic
import Derived.BigQuiet
import Derived.Laws.StructEq
namespace Go.Proofs.Ybulkdmgi
open Go.RowKit

theorem neqSame (a b c d : Int) (w : World) : (binOp .neq 82 (.agg #[.int .i32 a, .int .i32 b, .int .i32 c, .int .i32 d]) (.agg #[.int .i32 a, .int .i32 b, .int .i32 c, .int .i32 d])).run Yba.prog w = .ok (.bool false) w := by
  have u := Yba.underlying21
  have a3 := Yba.isAgg21
  have z3 := Yba.sizeOf21
  have hS : Yba.prog.underlying 82 = some (.struct (Yba.prog.fieldsOf 82)) := by kernel_rfl
  have hp : Yba.prog.stoodInHeld 82 = false := by kernel_rfl
  rw [run_neq_struct, show (10000 : Nat) = 9999 + 1 from rfl, run_equalIn_agg w 9999 82 _ _ hS hp]
  simp only [Program.fieldsOf, Yba.underlying82]
  go_simp
theorem guard82 (op : BinOp) (x y : Operand) (xs ys : Array Value) (w : World) : (eqGuard op 82 x y (.agg xs) (.agg ys)).run Yba.prog w = .ok () w := run_eqGuard_agg w op 82 x y xs ys (by kernel_rfl)

set_option maxHeartbeats 1000000 in
theorem equal_any (g c g' c' : Nat) (T : List Node) (w : World) (hn : T.length ≤ 65537) (hR : NRow w g T) (hR' : NRow w g' T) :
    Calls Yba.prog 19 #[.slice (some ⟨g, 0, none⟩) T.length c, .slice (some ⟨g', 0, none⟩) T.length c'] w fun e w' => e = .returned (.bool true) ∧ Below w.heap.size w w' := by
  obtain ⟨n, hnn⟩ : ∃ n, n = T.length := ⟨_, rfl⟩
  rw [← hnn] at hn ⊢
  have HN : Hid (n = T.length) := hnn
  have HR : Hid (NRow w g T) := hR
  have HR' : Hid (NRow w g' T) := hR'
  have q1 := neqSame
  have q2 := guard82
  clear hR hR' hnn
  go_enter Yba.func19, Yba.ntmps19
  go_wp2
  go_loopw [13] (fun i wr => ∃ k : Nat, k ≤ n ∧ i = .int .i64 k ∧ ∃ q, wr = w.drewN q) (fun i _ => n - (intOf i).toNat)
  case atStart => exact ⟨0, Nat.zero_le _, rfl, 0, rfl⟩
  case round =>
    obtain ⟨k, hk, rfl, q, rfl⟩ := hrel
    by_cases hlt : k < n
    · obtain ⟨c0, c1, c2, c3⟩ := HR.out k (by have := HN.out; omega)
      obtain ⟨d0, d1, d2, d3⟩ := HR'.out k (by have := HN.out; omega)
      go_wp2
      go_quiet (fail)
      go_wp2
      go_roundw
      case rel => exact ⟨k + 1, by omega, by go_num, q + nq, rfl⟩
      case measure => simp [intOf]; omega
    · go_wp2
      go_ret
      exact ⟨rfl, below_drewN (Below.refl _ _) q⟩
end Go.Proofs.Ybulkdmgi
