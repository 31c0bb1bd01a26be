/-
  DERIVED. GIVEN WITH THE SEED: THE CARDS: each row of YbulkcegsFmtRows.lean that lists a variable, with what it lists TIED to the program's text (the seventh form; the later family's looks); each row that meets fmt, with fmt's text TOLD by the authors' own Lean function (tested against real Go, not proved from fmt's source: count such statements apart). THE CARD IS WHAT COUNTS. Prove the row's statement (the work); the ties are given (YbulkcegsFmtTie.lean); close each card by the builder's one call (the guide's Derived/Test/ToyasCard.lean, 'card_holds'). Laid BY PROGRAM, IN A SANDBOX (cutbox-door.mjs). By AI agents, Wed Nov 11 2026. No macro, syntax, notation, axiom, sorry.
-/
import Derived.Test.YbulkcegsFmtRows
import GoSem.ClaimSeven
namespace Go.Proofs.YbulkcegsFmt
namespace Rows

/-- THE TOLD AND TIED CARD OF 'accuser.LawS4022BSteps'. -/
def lawS4022BStepsCard : Claim7 := { stood := { row := lawS4022BStepsRow, standIns := [], harness := (true, "02d333d815eaae3acf17419ddca4d0c887751e919cc42ddf9ce5309e7dbcb13e"), looks := true }, told := true, laidByText := true, laidKinds := [.handle], laidTests := true, laidLooks := .later, goes := false }
def LawS4022BStepsToldSaid : Prop := Claim7.holds Ybaf.pinned (.plain (OpenSpec.ofChange lawS4022BStepsSpec)) lawS4022BStepsCard
/-- ITS FALSE NEIGHBOUR. Refute it at one input. -/
def LawS4022BStepsToldWrongFalsely : Prop := Claim7.holds Ybaf.pinned (.plain (OpenSpec.ofChange lawS4022BStepsWrong)) lawS4022BStepsCard

/-- THE TOLD AND TIED CARD OF 'accuser.LawS4022BGossip'. -/
def lawS4022BGossipCard : Claim7 := { stood := { row := lawS4022BGossipRow, standIns := [], harness := (true, "02d333d815eaae3acf17419ddca4d0c887751e919cc42ddf9ce5309e7dbcb13e"), looks := true }, told := true, laidByText := true, laidKinds := [.handle], laidTests := true, laidLooks := .later, goes := false }
def LawS4022BGossipToldSaid : Prop := Claim7.holds Ybaf.pinned (.plain (OpenSpec.ofChange lawS4022BGossipSpec)) lawS4022BGossipCard
/-- ITS FALSE NEIGHBOUR. Refute it at one input. -/
def LawS4022BGossipToldWrongFalsely : Prop := Claim7.holds Ybaf.pinned (.plain (OpenSpec.ofChange lawS4022BGossipWrong)) lawS4022BGossipCard
end Rows
end Go.Proofs.YbulkcegsFmt
