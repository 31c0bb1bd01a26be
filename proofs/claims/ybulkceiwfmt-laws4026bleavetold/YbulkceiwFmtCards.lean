/-
  DERIVED. GIVEN WITH THE SEED: THE CARDS: each row of YbulkceiwFmtRows.lean that lists a variable, with what it lists TIED to the program's text (the seventh form; the later family's looks); each row that meets fmt, with fmt's text TOLD by the authors' own Lean function (tested against real Go, not proved from fmt's source: count such statements apart). THE CARD IS WHAT COUNTS. Prove the row's statement (the work); the ties are given (YbulkceiwFmtTie.lean); close each card by the builder's one call (the guide's Derived/Test/ToyasCard.lean, 'card_holds'). Laid BY PROGRAM, IN A SANDBOX (cutbox-door.mjs). By AI agents, Wed Nov 11 2026. No macro, syntax, notation, axiom, sorry.
-/
import Derived.Test.YbulkceiwFmtRows
import GoSem.ClaimSeven
namespace Go.Proofs.YbulkceiwFmt
namespace Rows

/-- THE TOLD CARD OF 'script.LawS4026BLeave'. -/
def lawS4026BLeaveCard : Claim7 := { stood := { row := lawS4026BLeaveRow, standIns := [], harness := (true, "1e0687417ccee3ed5e762fb4bcf2aac439f2fe25a9cec7fb3201c36847e7c460"), looks := true }, told := true, goes := false }
def LawS4026BLeaveToldSaid : Prop := Claim7.holds Ybaf.pinned (.plain (OpenSpec.ofChange lawS4026BLeaveSpec)) lawS4026BLeaveCard
/-- ITS FALSE NEIGHBOUR. Refute it at one input. -/
def LawS4026BLeaveToldWrongFalsely : Prop := Claim7.holds Ybaf.pinned (.plain (OpenSpec.ofChange lawS4026BLeaveWrong)) lawS4026BLeaveCard

/-- THE TOLD AND TIED CARD OF 'script.LawS4026CAnyText'. -/
def lawS4026CAnyTextCard : Claim7 := { stood := { row := lawS4026CAnyTextRow, standIns := [], harness := (true, "1e0687417ccee3ed5e762fb4bcf2aac439f2fe25a9cec7fb3201c36847e7c460"), looks := true }, told := true, laidByText := true, laidKinds := [.data, .data, .data, .data, .sentinel, .sentinel, .pinned], laidTests := true, laidLooks := .later, goes := false }
def LawS4026CAnyTextToldSaid : Prop := Claim7.holds Ybaf.pinned (.plain (OpenSpec.ofChange lawS4026CAnyTextSpec)) lawS4026CAnyTextCard
/-- ITS FALSE NEIGHBOUR. Refute it at one input. -/
def LawS4026CAnyTextToldWrongFalsely : Prop := Claim7.holds Ybaf.pinned (.plain (OpenSpec.ofChange lawS4026CAnyTextWrong)) lawS4026CAnyTextCard

/-- THE TOLD AND TIED CARD OF 'script.LawS4026CDigits'. -/
def lawS4026CDigitsCard : Claim7 := { stood := { row := lawS4026CDigitsRow, standIns := [], harness := (true, "1e0687417ccee3ed5e762fb4bcf2aac439f2fe25a9cec7fb3201c36847e7c460"), looks := true }, told := true, laidByText := true, laidKinds := [.data, .data, .data, .data, .sentinel, .sentinel, .pinned], laidTests := true, laidLooks := .later, goes := false }
def LawS4026CDigitsToldSaid : Prop := Claim7.holds Ybaf.pinned (.plain (OpenSpec.ofChange lawS4026CDigitsSpec)) lawS4026CDigitsCard
/-- ITS FALSE NEIGHBOUR. Refute it at one input. -/
def LawS4026CDigitsToldWrongFalsely : Prop := Claim7.holds Ybaf.pinned (.plain (OpenSpec.ofChange lawS4026CDigitsWrong)) lawS4026CDigitsCard
end Rows
end Go.Proofs.YbulkceiwFmt
