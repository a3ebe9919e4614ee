import Derived.Test.YbulkdmeeProg
import Derived.WalkKit
import Derived.WalkLawsBesides
import Derived.WalkSpells
import Derived.Outline
import Derived.Deep.LoopGhost
import Derived.Laws.EntriesVeiled
namespace Go.Proofs.Ybulkdmee
open Go.RowKit

theorem Yba.cells59 : Yba.prog.cellsOf 59 = 5 := by kernel_rfl

set_option maxHeartbeats 400000 in
theorem functions_any (B : Nat) (v : Value) (hv : ∃ a n c, v = .slice a n c) (w : World) (h0 : w.cell? ⟨B, 0, none⟩ = some v) (h1 : w.cell? ⟨B, 1, none⟩ = some (.int .i64 0)) (f1 : w.frozen? ⟨B, 1, none⟩ = false) :
    Calls Yba.prog 35 #[.pointer (some ⟨B, 0, none⟩)] w fun e w' => e = .returned v ∧ w' = w.setCell ⟨B, 1, none⟩ (.int .i64 1) := by
  obtain ⟨a, n, c, rfl⟩ := hv
  go_enter Yba.func35, Yba.ntmps35
  go_wp2
  go_ret
  exact ⟨rfl, rfl⟩
end Go.Proofs.Ybulkdmee
