/-
  No cell of these rows narrows 'for every input' (looked for: loops, veiled, ifaces, maps, wideKeys, modest, calm, conditions, laid).
  DERIVED. THE GIVEN ROWS OF THIS SEAT. 2 by the template 'for every input the law returns true; each argument reads behind the call as it read before'; 0 by the template 'total and deterministic' (their statements: YbulkdmeeTotals.lean).
  GIVEN WITH THE SEED: the statements are not yours to turn. If you find one false, say at which input.
  Laid BY PROGRAM, IN A SANDBOX (cutbox-rows.mjs): the forced cells as the released guide's own fill.sh prints them over the translation e6596319d7b78b14… (all of the seat's roots in one cut). By AI agents, Wed Nov 11 2026. No macro, syntax, notation, axiom, sorry.
-/
import Derived.Test.YbulkdmeeChecked
import GoSem.Claim
import GoSem.ClaimJoined
import GoSem.ClaimMapViews
import Derived.JoinedTies
import Derived.KernelRfl
namespace Go.Proofs.Ybulkdmee
/- THE CELL 'sum', in the pinned program and in every row, IS THE sha256 OF THE DUMP (.gsa) THAT YbulkdmeeProg.lean LOADS. Nothing in Lean hashes anything: it is a label: what it is worth is what the hold of that sum in a sandbox is worth. -/
noncomputable def Yba.pinned : Pinned := { name := "ybulkdmee", sum := "e6596319d7b78b142013d6542d14db06c7f5a466c710c5af00da439db55461c8", checked := Yba.checked }
namespace Rows
def none {H : Type} : Left H := { results := [], args := [] }

/-- 'trlc.LawS5659BWhole': WHATEVER THE INPUT: true; the input reads as it did. -/
def lawS5659BWholeSpec : ChangeSpec := { name := "lawS5659BWhole", fn := fun _ => fun
  | [d1, d2, d3] => { results := [.lit (.bool true)], args := [d1, d2, d3] }
  | _ => none }
def lawS5659BWholeRow : OpenClaim := { program := "ybulkdmee", sum := "e6596319d7b78b142013d6542d14db06c7f5a466c710c5af00da439db55461c8", func := "example.com/imprenta/imprenta/internal/trlc.LawS5659BWhole", spec := "lawS5659BWhole", unfollowed := true, recurses := true, apart := false }
def LawS5659BWholeSaid : Prop := lawS5659BWholeRow.holds Yba.pinned (OpenSpec.ofChange lawS5659BWholeSpec)

/-- ITS FALSE NEIGHBOUR: 'it returns false'. Refute it at one input. -/
def lawS5659BWholeWrong : ChangeSpec := { name := "lawS5659BWhole", fn := fun _ => fun
  | [d1, d2, d3] => { results := [.lit (.bool false)], args := [d1, d2, d3] }
  | _ => none }
def LawS5659BWholeWrongFalsely : Prop := lawS5659BWholeRow.holds Yba.pinned (OpenSpec.ofChange lawS5659BWholeWrong)

/-- 'trlc.LawS5659CWhole': WHATEVER THE INPUT: true; the input reads as it did. -/
def lawS5659CWholeSpec : ChangeSpec := { name := "lawS5659CWhole", fn := fun _ => fun
  | [d1, d2, d3, d4] => { results := [.lit (.bool true)], args := [d1, d2, d3, d4] }
  | _ => none }
def lawS5659CWholeRow : OpenClaim := { program := "ybulkdmee", sum := "e6596319d7b78b142013d6542d14db06c7f5a466c710c5af00da439db55461c8", func := "example.com/imprenta/imprenta/internal/trlc.LawS5659CWhole", spec := "lawS5659CWhole", unfollowed := true, recurses := true, apart := false }
def LawS5659CWholeSaid : Prop := lawS5659CWholeRow.holds Yba.pinned (OpenSpec.ofChange lawS5659CWholeSpec)

/-- ITS FALSE NEIGHBOUR: 'it returns false'. Refute it at one input. -/
def lawS5659CWholeWrong : ChangeSpec := { name := "lawS5659CWhole", fn := fun _ => fun
  | [d1, d2, d3, d4] => { results := [.lit (.bool false)], args := [d1, d2, d3, d4] }
  | _ => none }
def LawS5659CWholeWrongFalsely : Prop := lawS5659CWholeRow.holds Yba.pinned (OpenSpec.ofChange lawS5659CWholeWrong)

end Rows
end Go.Proofs.Ybulkdmee
