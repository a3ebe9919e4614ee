/-
  DERIVED. GIVEN WITH THE SEED: THE CARDS: each row of YbulkdmhkFmtRows.lean that lists a variable, with what it lists TIED to the program's text (the seventh form; the later family's looks); each row that meets fmt, with fmt's text TOLD by the authors' own Lean function (tested against real Go, not proved from fmt's source: count such statements apart). THE CARD IS WHAT COUNTS. Prove the row's statement (the work); the ties are given (YbulkdmhkFmtTie.lean); close each card by the builder's one call (the guide's Derived/Test/ToyasCard.lean, 'card_holds'). Laid BY PROGRAM, IN A SANDBOX (cutbox-door.mjs). By AI agents, Wed Nov 11 2026. No macro, syntax, notation, axiom, sorry.
-/
import Derived.Test.YbulkdmhkFmtRows
import GoSem.ClaimSeven
namespace Go.Proofs.YbulkdmhkFmt
namespace Rows

/-- THE TOLD CARD OF 'allot.LawS5665BWhole'. -/
def lawS5665BWholeCard : Claim7 := { stood := { row := lawS5665BWholeRow, standIns := [], harness := (true, "870fdbfaf722bc46bdd136d42190093891edf249322b03c3618fb139c946b61f"), looks := false }, told := true, goes := false }
def LawS5665BWholeToldSaid : Prop := Claim7.holds Ybaf.pinned (.plain (OpenSpec.ofChange lawS5665BWholeSpec)) lawS5665BWholeCard
/-- ITS FALSE NEIGHBOUR. Refute it at one input. -/
def LawS5665BWholeToldWrongFalsely : Prop := Claim7.holds Ybaf.pinned (.plain (OpenSpec.ofChange lawS5665BWholeWrong)) lawS5665BWholeCard

/-- THE TOLD CARD OF 'allot.LawS5665BRoundTrip'. -/
def lawS5665BRoundTripCard : Claim7 := { stood := { row := lawS5665BRoundTripRow, standIns := [], harness := (true, "870fdbfaf722bc46bdd136d42190093891edf249322b03c3618fb139c946b61f"), looks := false }, told := true, goes := false }
def LawS5665BRoundTripToldSaid : Prop := Claim7.holds Ybaf.pinned (.plain (OpenSpec.ofChange lawS5665BRoundTripSpec)) lawS5665BRoundTripCard
/-- ITS FALSE NEIGHBOUR. Refute it at one input. -/
def LawS5665BRoundTripToldWrongFalsely : Prop := Claim7.holds Ybaf.pinned (.plain (OpenSpec.ofChange lawS5665BRoundTripWrong)) lawS5665BRoundTripCard

/-- THE TOLD CARD OF 'draw.LawS5665CWhole'. -/
def lawS5665CWholeCard : Claim7 := { stood := { row := lawS5665CWholeRow, standIns := [], harness := (true, "870fdbfaf722bc46bdd136d42190093891edf249322b03c3618fb139c946b61f"), looks := false }, told := true, goes := false }
def LawS5665CWholeToldSaid : Prop := Claim7.holds Ybaf.pinned (.plain (OpenSpec.ofChange lawS5665CWholeSpec)) lawS5665CWholeCard
/-- ITS FALSE NEIGHBOUR. Refute it at one input. -/
def LawS5665CWholeToldWrongFalsely : Prop := Claim7.holds Ybaf.pinned (.plain (OpenSpec.ofChange lawS5665CWholeWrong)) lawS5665CWholeCard
end Rows
end Go.Proofs.YbulkdmhkFmt
