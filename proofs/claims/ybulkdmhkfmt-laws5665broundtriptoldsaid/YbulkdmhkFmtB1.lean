import Derived.Test.YbulkdmhkFmtF
import Derived.WalkKit
import Derived.WalkLawsBesides
import Derived.WalkSpells
import Derived.Outline
namespace Go.Proofs.YbulkdmhkFmt
open Go.RowKit Go.Extern.Stop Go.Stop Go.Extern

theorem string0 (w : World) : Calls Ybaf.prog 14 #[.int .i64 0] w fun e w' => e = .returned (.string ⟨#[116, 114, 117, 110, 99, 97, 116, 101]⟩) ∧ w' = w := by
  go_enter Ybaf.func14, Ybaf.ntmps14
  go_wp2
  go_ret
  exact ⟨rfl, rfl⟩
theorem string1 (w : World) : Calls Ybaf.prog 14 #[.int .i64 1] w fun e w' => e = .returned (.string ⟨#[114, 111, 117, 110, 100]⟩) ∧ w' = w := by
  go_enter Ybaf.func14, Ybaf.ntmps14
  go_wp2
  go_ret
  exact ⟨rfl, rfl⟩

/-- What Sprintf is asked of a rule that is not known. -/
def readingS (x : Int) : List (List UInt8) := [[84, 97, 105, 108, 82, 117, 108, 101, 40, 37, 100, 41], Ybaf.shape3, Go.Extern.Stop.digits 8 (x % 18446744073709551616).toNat]

set_option maxHeartbeats 800000 in
theorem stringX (F : Interp) (x : Int) (w : World) (hF : F.answers w.tape) (h0 : x ≠ 0) (h1 : x ≠ 1) :
    Calls Ybaf.prog 14 #[.int .i64 x] w fun e w' => e = .returned (.string (FmtStop.textOf (F "fmt.Sprintf" (readingS x) 0))) ∧ w' = (w.alloc (.cells #[.iface 3 (.int .i64 x)] 20)).drew := by
  have hF' := answers_open hF
  have e0 : (x == 0) = false := by simpa using h0
  have e1 : (x == 1) = false := by simpa using h1
  clear h0 h1
  go_enter Ybaf.func14, Ybaf.ntmps14
  go_wp2
  go_ret
  exact ⟨rfl, rfl⟩
end Go.Proofs.YbulkdmhkFmt
