/-
  NARROWER THAN 'FOR EVERY INPUT', by the rows' own cells (each row's printed sentence says how): LawS4022BSteps: laid · LawS4022BGossip: laid.
  DERIVED. THE GIVEN ROWS OF THIS SEAT. 2 by the template 'for every input the law returns true; each argument reads behind the call as it read before'; 0 by the template 'total and deterministic' (their statements: YbulkcegsFmtTotals.lean).
  GIVEN WITH THE SEED: the statements are not yours to turn. If you find one false, say at which input.
  Laid BY PROGRAM, IN A SANDBOX (cutbox-rows.mjs): the forced cells as the released guide's own fill.sh prints them over the translation 5a8088a2b99ad60d… (all of the seat's roots in one cut). By AI agents, Wed Nov 11 2026. No macro, syntax, notation, axiom, sorry.
-/
import Derived.Test.YbulkcegsFmtChecked
import GoSem.Claim
import GoSem.ClaimJoined
import GoSem.ClaimMapViews
import Derived.JoinedTies
import Derived.KernelRfl
namespace Go.Proofs.YbulkcegsFmt
/- THE CELL 'sum', in the pinned program and in every row, IS THE sha256 OF THE DUMP (.gsa) THAT YbulkcegsFmtProg.lean LOADS. Nothing in Lean hashes anything: it is a label: what it is worth is what the hold of that sum in a sandbox is worth. -/
noncomputable def Ybaf.pinned : Pinned := { name := "ybulkcegsfmt", sum := "5a8088a2b99ad60d4fabe8454da1b8563c901be4bd899d9396997ab27281e367", checked := Ybaf.checked }
namespace Rows
def none {H : Type} : Left H := { results := [], args := [] }

/- WHAT THE LISTED PACKAGE-LEVEL VARIABLES READ AS WHEN THE CALL BEGINS. Each datum BY PROGRAM (the guide's laid-datum.mjs) off the statement by which the dump's own 'gosem.cut.vars' lays the variable. In a bare row this is a premise. The card (YbulkcegsFmtCards.lean) ties it to the program's text. -/
def laid_errors_errorType {H : Type} : DataW H := .iface "internal/reflectlite.rtype" (.agg [.ptr (.lit (.string [101, 114, 114, 111, 114]))])

/-- 'accuser.LawS4022BSteps': WHATEVER THE INPUT: true; the input reads as it did. -/
def lawS4022BStepsSpec : ChangeSpec := { name := "lawS4022BSteps", fn := fun _ => fun
  | [d1, d2] => { results := [.lit (.bool true)], args := [d1, d2] }
  | _ => none }
def lawS4022BStepsRow : OpenClaim := { program := "ybulkcegsfmt", sum := "5a8088a2b99ad60d4fabe8454da1b8563c901be4bd899d9396997ab27281e367", func := "example.com/accuser/accuser.LawS4022BSteps", spec := "lawS4022BSteps", stops := ["fmt.errorf"], inPlace := ["fmt.errorf", "internal/reflectlite.ValueOf", "(internal/reflectlite.Value).Type", "(internal/reflectlite.Value).IsNil", "internal/reflectlite.TypeOf", "(internal/reflectlite.Value).Elem", "(internal/reflectlite.Value).Set"], unfollowed := true, recurses := true, named := ["errors.errorType"], apart := false, laid := [("errors.errorType", laid_errors_errorType)] }
/-- NO THEOREM (fmt's text is open here; it may be false): for the released tool's asking of the row's closed facts alone. THE STATEMENT IS 'LawS4022BStepsToldSaid' (YbulkcegsFmtCards.lean). -/
def LawS4022BStepsFormAsk : Prop := lawS4022BStepsRow.holds Ybaf.pinned (OpenSpec.ofChange lawS4022BStepsSpec)

/-- ITS FALSE NEIGHBOUR: 'it returns false'. Refute it at one input. -/
def lawS4022BStepsWrong : ChangeSpec := { name := "lawS4022BSteps", fn := fun _ => fun
  | [d1, d2] => { results := [.lit (.bool false)], args := [d1, d2] }
  | _ => none }
def LawS4022BStepsWrongFormAsk : Prop := lawS4022BStepsRow.holds Ybaf.pinned (OpenSpec.ofChange lawS4022BStepsWrong)

/-- 'accuser.LawS4022BGossip': WHATEVER THE INPUT: true; the input reads as it did. -/
def lawS4022BGossipSpec : ChangeSpec := { name := "lawS4022BGossip", fn := fun _ => fun
  | [d] => { results := [.lit (.bool true)], args := [d] }
  | _ => none }
def lawS4022BGossipRow : OpenClaim := { program := "ybulkcegsfmt", sum := "5a8088a2b99ad60d4fabe8454da1b8563c901be4bd899d9396997ab27281e367", func := "example.com/accuser/accuser.LawS4022BGossip", spec := "lawS4022BGossip", stops := ["fmt.errorf"], inPlace := ["fmt.errorf", "internal/reflectlite.ValueOf", "(internal/reflectlite.Value).Type", "(internal/reflectlite.Value).IsNil", "internal/reflectlite.TypeOf", "(internal/reflectlite.Value).Elem", "(internal/reflectlite.Value).Set"], unfollowed := true, recurses := true, named := ["errors.errorType"], apart := false, laid := [("errors.errorType", laid_errors_errorType)] }
/-- NO THEOREM (fmt's text is open here; it may be false): for the released tool's asking of the row's closed facts alone. THE STATEMENT IS 'LawS4022BGossipToldSaid' (YbulkcegsFmtCards.lean). -/
def LawS4022BGossipFormAsk : Prop := lawS4022BGossipRow.holds Ybaf.pinned (OpenSpec.ofChange lawS4022BGossipSpec)

/-- ITS FALSE NEIGHBOUR: 'it returns false'. Refute it at one input. -/
def lawS4022BGossipWrong : ChangeSpec := { name := "lawS4022BGossip", fn := fun _ => fun
  | [d] => { results := [.lit (.bool false)], args := [d] }
  | _ => none }
def LawS4022BGossipWrongFormAsk : Prop := lawS4022BGossipRow.holds Ybaf.pinned (OpenSpec.ofChange lawS4022BGossipWrong)

end Rows
end Go.Proofs.YbulkcegsFmt
