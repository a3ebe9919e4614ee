/-
  No cell of these rows narrows 'for every input' (looked for: loops, veiled, ifaces, maps, wideKeys, modest, calm, conditions, laid).
  DERIVED. THE GIVEN ROWS OF THIS SEAT. 3 by the template 'for every input the law returns true; each argument reads behind the call as it read before'; 0 by the template 'total and deterministic' (their statements: YbulkdmhkFmtTotals.lean).
  GIVEN WITH THE SEED: the statements are not yours to turn. If you find one false, say at which input.
  Laid BY PROGRAM, IN A SANDBOX (cutbox-rows.mjs): the forced cells as the released guide's own fill.sh prints them over the translation bba3b618f4d5b95e… (all of the seat's roots in one cut). By AI agents, Wed Nov 11 2026. No macro, syntax, notation, axiom, sorry.
-/
import Derived.Test.YbulkdmhkFmtChecked
import GoSem.Claim
import GoSem.ClaimJoined
import GoSem.ClaimMapViews
import Derived.JoinedTies
import Derived.KernelRfl
namespace Go.Proofs.YbulkdmhkFmt
/- THE CELL 'sum', in the pinned program and in every row, IS THE sha256 OF THE DUMP (.gsa) THAT YbulkdmhkFmtProg.lean LOADS. Nothing in Lean hashes anything: it is a label: what it is worth is what the hold of that sum in a sandbox is worth. -/
noncomputable def Ybaf.pinned : Pinned := { name := "ybulkdmhkfmt", sum := "bba3b618f4d5b95ebd0c07d11c58b0f977f9dfb064c18a4e116ca23337c6fc2c", checked := Ybaf.checked }
namespace Rows
def none {H : Type} : Left H := { results := [], args := [] }

/-- 'allot.LawS5665BWhole': WHATEVER THE INPUT: true; the input reads as it did. -/
def lawS5665BWholeSpec : ChangeSpec := { name := "lawS5665BWhole", fn := fun _ => fun
  | [d] => { results := [.lit (.bool true)], args := [d] }
  | _ => none }
def lawS5665BWholeRow : OpenClaim := { program := "ybulkdmhkfmt", sum := "bba3b618f4d5b95ebd0c07d11c58b0f977f9dfb064c18a4e116ca23337c6fc2c", func := "example.com/zhuanzhai/zhuanzhai/allot.LawS5665BWhole", spec := "lawS5665BWhole", stops := ["fmt.Sprintf", "fmt.errorf, its operands' methods called"], inPlace := ["fmt.errorf", "fmt.Sprintf"], unfollowed := true, recurses := true, apart := false }
/-- NO THEOREM (fmt's text is open here; it may be false): for the released tool's asking of the row's closed facts alone. THE STATEMENT IS 'LawS5665BWholeToldSaid' (YbulkdmhkFmtCards.lean). -/
def LawS5665BWholeFormAsk : Prop := lawS5665BWholeRow.holds Ybaf.pinned (OpenSpec.ofChange lawS5665BWholeSpec)

/-- ITS FALSE NEIGHBOUR: 'it returns false'. Refute it at one input. -/
def lawS5665BWholeWrong : ChangeSpec := { name := "lawS5665BWhole", fn := fun _ => fun
  | [d] => { results := [.lit (.bool false)], args := [d] }
  | _ => none }
def LawS5665BWholeWrongFormAsk : Prop := lawS5665BWholeRow.holds Ybaf.pinned (OpenSpec.ofChange lawS5665BWholeWrong)

/-- 'allot.LawS5665BRoundTrip': WHATEVER THE INPUT: true; the input reads as it did. -/
def lawS5665BRoundTripSpec : ChangeSpec := { name := "lawS5665BRoundTrip", fn := fun _ => fun
  | [d1, d2] => { results := [.lit (.bool true)], args := [d1, d2] }
  | _ => none }
def lawS5665BRoundTripRow : OpenClaim := { program := "ybulkdmhkfmt", sum := "bba3b618f4d5b95ebd0c07d11c58b0f977f9dfb064c18a4e116ca23337c6fc2c", func := "example.com/zhuanzhai/zhuanzhai/allot.LawS5665BRoundTrip", spec := "lawS5665BRoundTrip", stops := ["fmt.Sprintf", "fmt.errorf, its operands' methods called"], inPlace := ["fmt.errorf", "fmt.Sprintf"], unfollowed := true, recurses := true, apart := false }
/-- NO THEOREM (fmt's text is open here; it may be false): for the released tool's asking of the row's closed facts alone. THE STATEMENT IS 'LawS5665BRoundTripToldSaid' (YbulkdmhkFmtCards.lean). -/
def LawS5665BRoundTripFormAsk : Prop := lawS5665BRoundTripRow.holds Ybaf.pinned (OpenSpec.ofChange lawS5665BRoundTripSpec)

/-- ITS FALSE NEIGHBOUR: 'it returns false'. Refute it at one input. -/
def lawS5665BRoundTripWrong : ChangeSpec := { name := "lawS5665BRoundTrip", fn := fun _ => fun
  | [d1, d2] => { results := [.lit (.bool false)], args := [d1, d2] }
  | _ => none }
def LawS5665BRoundTripWrongFormAsk : Prop := lawS5665BRoundTripRow.holds Ybaf.pinned (OpenSpec.ofChange lawS5665BRoundTripWrong)

/-- 'draw.LawS5665CWhole': WHATEVER THE INPUT: true; the input reads as it did. -/
def lawS5665CWholeSpec : ChangeSpec := { name := "lawS5665CWhole", fn := fun _ => fun
  | [d1, d2, d3] => { results := [.lit (.bool true)], args := [d1, d2, d3] }
  | _ => none }
def lawS5665CWholeRow : OpenClaim := { program := "ybulkdmhkfmt", sum := "bba3b618f4d5b95ebd0c07d11c58b0f977f9dfb064c18a4e116ca23337c6fc2c", func := "example.com/zhuanzhai/zhuanzhai/internal/draw.LawS5665CWhole", spec := "lawS5665CWhole", stops := ["fmt.Sprintf", "fmt.errorf, its operands' methods called"], inPlace := ["fmt.Sprintf", "internal/reflectlite.ValueOf", "internal/reflectlite.Swapper", "(internal/reflectlite.Value).Len"], unfollowed := true, recurses := true, apart := false }
/-- NO THEOREM (fmt's text is open here; it may be false): for the released tool's asking of the row's closed facts alone. THE STATEMENT IS 'LawS5665CWholeToldSaid' (YbulkdmhkFmtCards.lean). -/
def LawS5665CWholeFormAsk : Prop := lawS5665CWholeRow.holds Ybaf.pinned (OpenSpec.ofChange lawS5665CWholeSpec)

/-- ITS FALSE NEIGHBOUR: 'it returns false'. Refute it at one input. -/
def lawS5665CWholeWrong : ChangeSpec := { name := "lawS5665CWhole", fn := fun _ => fun
  | [d1, d2, d3] => { results := [.lit (.bool false)], args := [d1, d2, d3] }
  | _ => none }
def LawS5665CWholeWrongFormAsk : Prop := lawS5665CWholeRow.holds Ybaf.pinned (OpenSpec.ofChange lawS5665CWholeWrong)

end Rows
end Go.Proofs.YbulkdmhkFmt
