/-
  No cell of these rows narrows 'for every input' (looked for: loops, veiled, ifaces, maps, wideKeys, modest, calm, conditions, laid).
  DERIVED. THE GIVEN ROWS OF THIS SEAT. 3 by the template 'for every input the law returns true; each argument reads behind the call as it read before'; 0 by the template 'total and deterministic' (their statements: YbulkcegeTotals.lean).
  GIVEN WITH THE SEED: the statements are not yours to turn. If you find one false, say at which input.
  Laid BY PROGRAM, IN A SANDBOX (cutbox-rows.mjs): the forced cells as the released guide's own fill.sh prints them over the translation 9b24a0b750478460… (all of the seat's roots in one cut). By AI agents, Wed Nov 11 2026. No macro, syntax, notation, axiom, sorry.
-/
import Derived.Test.YbulkcegeChecked
import GoSem.Claim
import GoSem.ClaimJoined
import GoSem.ClaimMapViews
import Derived.JoinedTies
import Derived.KernelRfl
namespace Go.Proofs.Ybulkcege
/- THE CELL 'sum', in the pinned program and in every row, IS THE sha256 OF THE DUMP (.gsa) THAT YbulkcegeProg.lean LOADS. Nothing in Lean hashes anything: it is a label: what it is worth is what the hold of that sum in a sandbox is worth. -/
noncomputable def Yba.pinned : Pinned := { name := "ybulkcege", sum := "9b24a0b7504784604d5fe5d012d8a6b7198a18bbd4fab9e162078edb58b73435", checked := Yba.checked }
namespace Rows
def none {H : Type} : Left H := { results := [], args := [] }

/-- 'peer.LawS4021BAfter': WHATEVER THE INPUT: true; the input reads as it did. -/
def lawS4021BAfterSpec : ChangeSpec := { name := "lawS4021BAfter", fn := fun _ => fun
  | [d1, d2, d3, d4, d5, d6] => { results := [.lit (.bool true)], args := [d1, d2, d3, d4, d5, d6] }
  | _ => none }
def lawS4021BAfterRow : OpenClaim := { program := "ybulkcege", sum := "9b24a0b7504784604d5fe5d012d8a6b7198a18bbd4fab9e162078edb58b73435", func := "example.com/transact/transact/internal/peer.LawS4021BAfter", spec := "lawS4021BAfter", apart := false }
def LawS4021BAfterSaid : Prop := lawS4021BAfterRow.holds Yba.pinned (OpenSpec.ofChange lawS4021BAfterSpec)

/-- ITS FALSE NEIGHBOUR: 'it returns false'. Refute it at one input. -/
def lawS4021BAfterWrong : ChangeSpec := { name := "lawS4021BAfter", fn := fun _ => fun
  | [d1, d2, d3, d4, d5, d6] => { results := [.lit (.bool false)], args := [d1, d2, d3, d4, d5, d6] }
  | _ => none }
def LawS4021BAfterWrongFalsely : Prop := lawS4021BAfterRow.holds Yba.pinned (OpenSpec.ofChange lawS4021BAfterWrong)

/-- 'peer.LawS4021BDialScript': WHATEVER THE INPUT: true; the input reads as it did. -/
def lawS4021BDialScriptSpec : ChangeSpec := { name := "lawS4021BDialScript", fn := fun _ => fun
  | [d] => { results := [.lit (.bool true)], args := [d] }
  | _ => none }
def lawS4021BDialScriptRow : OpenClaim := { program := "ybulkcege", sum := "9b24a0b7504784604d5fe5d012d8a6b7198a18bbd4fab9e162078edb58b73435", func := "example.com/transact/transact/internal/peer.LawS4021BDialScript", spec := "lawS4021BDialScript", apart := false }
def LawS4021BDialScriptSaid : Prop := lawS4021BDialScriptRow.holds Yba.pinned (OpenSpec.ofChange lawS4021BDialScriptSpec)

/-- ITS FALSE NEIGHBOUR: 'it returns false'. Refute it at one input. -/
def lawS4021BDialScriptWrong : ChangeSpec := { name := "lawS4021BDialScript", fn := fun _ => fun
  | [d] => { results := [.lit (.bool false)], args := [d] }
  | _ => none }
def LawS4021BDialScriptWrongFalsely : Prop := lawS4021BDialScriptRow.holds Yba.pinned (OpenSpec.ofChange lawS4021BDialScriptWrong)

/-- 'secs1.LawS4021CCloseOnce': WHATEVER THE INPUT: true; the input reads as it did. -/
def lawS4021CCloseOnceSpec : ChangeSpec := { name := "lawS4021CCloseOnce", fn := fun _ => fun
  | [d1, d2] => { results := [.lit (.bool true)], args := [d1, d2] }
  | _ => none }
def lawS4021CCloseOnceRow : OpenClaim := { program := "ybulkcege", sum := "9b24a0b7504784604d5fe5d012d8a6b7198a18bbd4fab9e162078edb58b73435", func := "example.com/transact/transact/secs1.LawS4021CCloseOnce", spec := "lawS4021CCloseOnce", inPlace := ["sync/atomic.LoadUint32", "(*internal/sync.Mutex).Lock", "internal/race.Disable", "sync/atomic.CompareAndSwapInt32", "internal/race.Enable", "internal/race.Acquire", "(*internal/sync.Mutex).lockSlow", "internal/sync.runtime_canSpin", "internal/sync.runtime_doSpin", "internal/sync.throw", "internal/sync.runtime_nanotime", "internal/sync.runtime_SemacquireMutex", "sync/atomic.AddInt32", "(*internal/sync.Mutex).Unlock", "internal/race.ReleaseMerge", "(*internal/sync.Mutex).unlockSlow", "internal/sync.fatal", "internal/sync.runtime_Semrelease", "sync/atomic.StoreUint32", "(*sync.WaitGroup).Wait", "sync/atomic.LoadUint64", "internal/synctest.IsAssociated[sync.WaitGroup]", "sync/atomic.CompareAndSwapUint64", "internal/synctest.Disassociate[sync.WaitGroup]", "internal/race.Write", "internal/synctest.IsInBubble", "sync.runtime_SemacquireWaitGroup"], unfollowed := true, recurses := true, apart := false }
def LawS4021CCloseOnceSaid : Prop := lawS4021CCloseOnceRow.holds Yba.pinned (OpenSpec.ofChange lawS4021CCloseOnceSpec)

/-- ITS FALSE NEIGHBOUR: 'it returns false'. Refute it at one input. -/
def lawS4021CCloseOnceWrong : ChangeSpec := { name := "lawS4021CCloseOnce", fn := fun _ => fun
  | [d1, d2] => { results := [.lit (.bool false)], args := [d1, d2] }
  | _ => none }
def LawS4021CCloseOnceWrongFalsely : Prop := lawS4021CCloseOnceRow.holds Yba.pinned (OpenSpec.ofChange lawS4021CCloseOnceWrong)

end Rows
end Go.Proofs.Ybulkcege
