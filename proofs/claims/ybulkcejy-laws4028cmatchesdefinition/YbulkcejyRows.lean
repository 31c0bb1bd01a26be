/-
  No cell of these rows narrows 'for every input' (looked for: loops, veiled, ifaces, maps, wideKeys, modest, calm, conditions, laid).
  DERIVED. THE GIVEN ROWS OF THIS SEAT. 2 by the template 'for every input the law returns true; each argument reads behind the call as it read before'; 0 by the template 'total and deterministic' (their statements: YbulkcejyTotals.lean).
  GIVEN WITH THE SEED: the statements are not yours to turn. If you find one false, say at which input.
  Laid BY PROGRAM, IN A SANDBOX (cutbox-rows.mjs): the forced cells as the released guide's own fill.sh prints them over the translation 4de97293b90d0a93… (all of the seat's roots in one cut). By AI agents, Wed Nov 11 2026. No macro, syntax, notation, axiom, sorry.
-/
import Derived.Test.YbulkcejyChecked
import GoSem.Claim
import GoSem.ClaimJoined
import GoSem.ClaimMapViews
import Derived.JoinedTies
import Derived.KernelRfl
namespace Go.Proofs.Ybulkcejy
/- THE CELL 'sum', in the pinned program and in every row, IS THE sha256 OF THE DUMP (.gsa) THAT YbulkcejyProg.lean LOADS. Nothing in Lean hashes anything: it is a label: what it is worth is what the hold of that sum in a sandbox is worth. -/
noncomputable def Yba.pinned : Pinned := { name := "ybulkcejy", sum := "4de97293b90d0a9397ab3cb26a3d4c5fc47796290f45f48887dfc5c945d009db", checked := Yba.checked }
namespace Rows
def none {H : Type} : Left H := { results := [], args := [] }

/-- 'tribunal.LawS4028AExact': WHATEVER THE INPUT: true; the input reads as it did. -/
def lawS4028AExactSpec : ChangeSpec := { name := "lawS4028AExact", fn := fun _ => fun
  | [d1, d2] => { results := [.lit (.bool true)], args := [d1, d2] }
  | _ => none }
def lawS4028AExactRow : OpenClaim := { program := "ybulkcejy", sum := "4de97293b90d0a9397ab3cb26a3d4c5fc47796290f45f48887dfc5c945d009db", func := "example.com/tribunal/tribunal.LawS4028AExact", spec := "lawS4028AExact", apart := false }
def LawS4028AExactSaid : Prop := lawS4028AExactRow.holds Yba.pinned (OpenSpec.ofChange lawS4028AExactSpec)

/-- ITS FALSE NEIGHBOUR: 'it returns false'. Refute it at one input. -/
def lawS4028AExactWrong : ChangeSpec := { name := "lawS4028AExact", fn := fun _ => fun
  | [d1, d2] => { results := [.lit (.bool false)], args := [d1, d2] }
  | _ => none }
def LawS4028AExactWrongFalsely : Prop := lawS4028AExactRow.holds Yba.pinned (OpenSpec.ofChange lawS4028AExactWrong)

/-- 'tribunal.LawS4028CMatchesDefinition': WHATEVER THE INPUT: true; the input reads as it did. -/
def lawS4028CMatchesDefinitionSpec : ChangeSpec := { name := "lawS4028CMatchesDefinition", fn := fun _ => fun
  | [d1, d2] => { results := [.lit (.bool true)], args := [d1, d2] }
  | _ => none }
def lawS4028CMatchesDefinitionRow : OpenClaim := { program := "ybulkcejy", sum := "4de97293b90d0a9397ab3cb26a3d4c5fc47796290f45f48887dfc5c945d009db", func := "example.com/tribunal/tribunal.LawS4028CMatchesDefinition", spec := "lawS4028CMatchesDefinition", unfollowed := true, recurses := true, apart := false }
def LawS4028CMatchesDefinitionSaid : Prop := lawS4028CMatchesDefinitionRow.holds Yba.pinned (OpenSpec.ofChange lawS4028CMatchesDefinitionSpec)

/-- ITS FALSE NEIGHBOUR: 'it returns false'. Refute it at one input. -/
def lawS4028CMatchesDefinitionWrong : ChangeSpec := { name := "lawS4028CMatchesDefinition", fn := fun _ => fun
  | [d1, d2] => { results := [.lit (.bool false)], args := [d1, d2] }
  | _ => none }
def LawS4028CMatchesDefinitionWrongFalsely : Prop := lawS4028CMatchesDefinitionRow.holds Yba.pinned (OpenSpec.ofChange lawS4028CMatchesDefinitionWrong)

end Rows
end Go.Proofs.Ybulkcejy
