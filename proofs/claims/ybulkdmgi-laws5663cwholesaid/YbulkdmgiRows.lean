/-
  No cell of these rows narrows 'for every input' (looked for: loops, veiled, ifaces, maps, wideKeys, modest, calm, conditions, laid).
  DERIVED. THE GIVEN ROWS OF THIS SEAT. 3 by the template 'for every input the law returns true; each argument reads behind the call as it read before'; 0 by the template 'total and deterministic' (their statements: YbulkdmgiTotals.lean).
  GIVEN WITH THE SEED: the statements are not yours to turn. If you find one false, say at which input.
  Laid BY PROGRAM, IN A SANDBOX (cutbox-rows.mjs): the forced cells as the released guide's own fill.sh prints them over the translation 0c90edb80366f403… (all of the seat's roots in one cut). By AI agents, Wed Nov 11 2026. No macro, syntax, notation, axiom, sorry.
-/
import Derived.Test.YbulkdmgiChecked
import GoSem.Claim
import GoSem.ClaimJoined
import GoSem.ClaimMapViews
import Derived.JoinedTies
import Derived.KernelRfl
namespace Go.Proofs.Ybulkdmgi
/- THE CELL 'sum', in the pinned program and in every row, IS THE sha256 OF THE DUMP (.gsa) THAT YbulkdmgiProg.lean LOADS. Nothing in Lean hashes anything: it is a label: what it is worth is what the hold of that sum in a sandbox is worth. -/
noncomputable def Yba.pinned : Pinned := { name := "ybulkdmgi", sum := "0c90edb80366f403b2bd09474ad1e08909dda41c38a32b5635e8cec9ac131cf8", checked := Yba.checked }
namespace Rows
def none {H : Type} : Left H := { results := [], args := [] }

/-- 'vantage.LawS5663AWhole': WHATEVER THE INPUT: true; the input reads as it did. -/
def lawS5663AWholeSpec : ChangeSpec := { name := "lawS5663AWhole", fn := fun _ => fun
  | [d] => { results := [.lit (.bool true)], args := [d] }
  | _ => none }
def lawS5663AWholeRow : OpenClaim := { program := "ybulkdmgi", sum := "0c90edb80366f403b2bd09474ad1e08909dda41c38a32b5635e8cec9ac131cf8", func := "example.com/vantage/vantage.LawS5663AWhole", spec := "lawS5663AWhole", unfollowed := true, recurses := true, plainKeys := false, apart := false }
def LawS5663AWholeSaid : Prop := lawS5663AWholeRow.holds Yba.pinned (OpenSpec.ofChange lawS5663AWholeSpec)

/-- ITS FALSE NEIGHBOUR: 'it returns false'. Refute it at one input. -/
def lawS5663AWholeWrong : ChangeSpec := { name := "lawS5663AWhole", fn := fun _ => fun
  | [d] => { results := [.lit (.bool false)], args := [d] }
  | _ => none }
def LawS5663AWholeWrongFalsely : Prop := lawS5663AWholeRow.holds Yba.pinned (OpenSpec.ofChange lawS5663AWholeWrong)

/-- 'vantage.LawS5663BWhole': WHATEVER THE INPUT: true; the input reads as it did. -/
def lawS5663BWholeSpec : ChangeSpec := { name := "lawS5663BWhole", fn := fun _ => fun
  | [d1, d2] => { results := [.lit (.bool true)], args := [d1, d2] }
  | _ => none }
def lawS5663BWholeRow : OpenClaim := { program := "ybulkdmgi", sum := "0c90edb80366f403b2bd09474ad1e08909dda41c38a32b5635e8cec9ac131cf8", func := "example.com/vantage/vantage.LawS5663BWhole", spec := "lawS5663BWhole", unfollowed := true, recurses := true, plainKeys := false, apart := false }
def LawS5663BWholeSaid : Prop := lawS5663BWholeRow.holds Yba.pinned (OpenSpec.ofChange lawS5663BWholeSpec)

/-- ITS FALSE NEIGHBOUR: 'it returns false'. Refute it at one input. -/
def lawS5663BWholeWrong : ChangeSpec := { name := "lawS5663BWhole", fn := fun _ => fun
  | [d1, d2] => { results := [.lit (.bool false)], args := [d1, d2] }
  | _ => none }
def LawS5663BWholeWrongFalsely : Prop := lawS5663BWholeRow.holds Yba.pinned (OpenSpec.ofChange lawS5663BWholeWrong)

/-- 'vantage.LawS5663CWhole': WHATEVER THE INPUT: true; the input reads as it did. -/
def lawS5663CWholeSpec : ChangeSpec := { name := "lawS5663CWhole", fn := fun _ => fun
  | [d1, d2, d3, d4] => { results := [.lit (.bool true)], args := [d1, d2, d3, d4] }
  | _ => none }
def lawS5663CWholeRow : OpenClaim := { program := "ybulkdmgi", sum := "0c90edb80366f403b2bd09474ad1e08909dda41c38a32b5635e8cec9ac131cf8", func := "example.com/vantage/vantage.LawS5663CWhole", spec := "lawS5663CWhole", plainKeys := false, apart := false }
def LawS5663CWholeSaid : Prop := lawS5663CWholeRow.holds Yba.pinned (OpenSpec.ofChange lawS5663CWholeSpec)

/-- ITS FALSE NEIGHBOUR: 'it returns false'. Refute it at one input. -/
def lawS5663CWholeWrong : ChangeSpec := { name := "lawS5663CWhole", fn := fun _ => fun
  | [d1, d2, d3, d4] => { results := [.lit (.bool false)], args := [d1, d2, d3, d4] }
  | _ => none }
def LawS5663CWholeWrongFalsely : Prop := lawS5663CWholeRow.holds Yba.pinned (OpenSpec.ofChange lawS5663CWholeWrong)

end Rows
end Go.Proofs.Ybulkdmgi
