import Derived.Test.YbulkceiwFmtProg
import Derived.Stop.CallBack
import Derived.Stop.IfaceNil
import GoSem.ClaimData
import Derived.WalkKit
import Derived.WalkSpells
import Derived.WalkLawsBesides
import Derived.Below
import Derived.Outline
namespace Go.Proofs.YbulkceiwFmt
open Go.Extern.Stop Go.Stop Go.Extern Go.RowKit
set_option linter.unusedVariables false

/-! The closed facts for a walk over fmt's stopped front, at this dump's numbers. -/
@[go_sem] theorem Ybaf.call13 (args : Array Value) (w : World) : (callFunc 13 args).run Ybaf.prog w = ((FmtStop.errorf #[9, 56] #[28] args).run Ybaf.prog w).andThen fun v w' => .ok (.value v) w' :=
  run_callFunc_extern Ybaf.func13 (by kernel_rfl) (by kernel_rfl) (by kernel_rfl) (by kernel_rfl) args w
@[go_sem] theorem Ybaf.guard (name : String) (w : World) : (FmtStop.guard name).run Ybaf.prog w = .ok () w := by kernel_rfl
@[go_sem] theorem Ybaf.fmt0 : FmtStop.printed? ⟨#[102, 117, 110, 99, 116, 105, 111, 110, 32, 37, 115, 32, 105, 115, 32, 110, 111, 116, 32, 114, 117, 110, 110, 105, 110, 103, 58, 32, 111, 110, 108, 121, 32, 97, 32, 102, 117, 110, 99, 116, 105, 111, 110, 32, 114, 101, 116, 117, 114, 110, 115]⟩ 1 = some [(0, 115, false)] := by kernel_rfl
@[go_sem] theorem Ybaf.fmt0r (w : World) : (FmtDoors.printed ⟨#[102, 117, 110, 99, 116, 105, 111, 110, 32, 37, 115, 32, 105, 115, 32, 110, 111, 116, 32, 114, 117, 110, 110, 105, 110, 103, 58, 32, 111, 110, 108, 121, 32, 97, 32, 102, 117, 110, 99, 116, 105, 111, 110, 32, 114, 101, 116, 117, 114, 110, 115]⟩ 1).run Ybaf.prog w = .ok [(0, 115, false)] w := by kernel_rfl
@[go_sem] theorem Ybaf.fmt1 : FmtStop.printed? ⟨#[102, 117, 110, 99, 116, 105, 111, 110, 32, 37, 115, 32, 105, 115, 32, 110, 111, 116, 32, 114, 117, 110, 110, 105, 110, 103, 44, 32, 37, 115, 32, 105, 115, 58, 32, 97, 32, 102, 117, 110, 99, 116, 105, 111, 110, 32, 114, 101, 116, 117, 114, 110, 115, 32, 111, 110, 108, 121, 32, 102, 114, 111, 109, 32, 105, 116, 115, 101, 108, 102]⟩ 2 = some [(0, 115, false), (1, 115, false)] := by kernel_rfl
@[go_sem] theorem Ybaf.fmt1r (w : World) : (FmtDoors.printed ⟨#[102, 117, 110, 99, 116, 105, 111, 110, 32, 37, 115, 32, 105, 115, 32, 110, 111, 116, 32, 114, 117, 110, 110, 105, 110, 103, 44, 32, 37, 115, 32, 105, 115, 58, 32, 97, 32, 102, 117, 110, 99, 116, 105, 111, 110, 32, 114, 101, 116, 117, 114, 110, 115, 32, 111, 110, 108, 121, 32, 102, 114, 111, 109, 32, 105, 116, 115, 101, 108, 102]⟩ 2).run Ybaf.prog w = .ok [(0, 115, false), (1, 115, false)] w := by kernel_rfl
def Ybaf.shape9 : List UInt8 := [12, 6, 0, 0, 0, 0, 0, 0, 0, 115, 116, 114, 105, 110, 103]
@[go_sem] theorem Ybaf.op9_115 (name : String) (x : ByteArray) (w : World) : (FmtStop.operand name false 115 false (.iface 9 (.string x))).run Ybaf.prog w = .ok (Ybaf.shape9, FmtStop.pack x.data.toList) w := by kernel_rfl
@[go_sem] theorem Ybaf.op9_115w (name : String) (x : ByteArray) (w : World) : (FmtStop.operand name true 115 false (.iface 9 (.string x))).run Ybaf.prog w = .ok (Ybaf.shape9, FmtStop.pack x.data.toList) w := by kernel_rfl
@[go_sem] theorem Ybaf.strict9 (name : String) (x : ByteArray) (w : World) : (FmtStop.strict name (.iface 9 (.string x))).run Ybaf.prog w = .ok (Ybaf.shape9, FmtStop.pack x.data.toList) w := by kernel_rfl
@[go_sem] theorem Ybaf.ptr60 (w : World) : (FmtStop.ptrTo "errors.errorString").run Ybaf.prog w = .ok 60 w := by kernel_rfl
@[go_sem] theorem Ybaf.elem60 (w : World) : (elemOf 60).run Ybaf.prog w = .ok 62 w := by kernel_rfl
@[go_sem] theorem Ybaf.isError60' (w : World) : (FmtDoors.textMethod 60 "Error").run Ybaf.prog w = .ok true w := by kernel_rfl

theorem errorf1 (F : Interp) (nm : ByteArray) (b : Nat) (w : World) (hF : F.answers w.tape) (hc : w.cell? ⟨b, 0, none⟩ = some (.iface 9 (.string nm))) :
    Calls Ybaf.prog 9 #[.string ⟨#[102, 117, 110, 99, 116, 105, 111, 110, 32, 37, 115, 32, 105, 115, 32, 110, 111, 116, 32, 114, 117, 110, 110, 105, 110, 103, 58, 32, 111, 110, 108, 121, 32, 97, 32, 102, 117, 110, 99, 116, 105, 111, 110, 32, 114, 101, 116, 117, 114, 110, 115]⟩, .slice (some ⟨b, 0, none⟩) 1 1] w fun e w' => ∃ a, e = .returned (.iface 60 (.pointer (some a))) ∧ Below w.heap.size w w' := by
  have hF' := answers_open hF
  go_enter Ybaf.func9, Ybaf.ntmps9
  go_wp2
  go_ret
  exact ⟨_, rfl, by repeat (first | exact Below.refl _ _ | apply Below.drew | refine Below.alloc ?_ (by simp) _)⟩

theorem errorf2 (F : Interp) (nm nm2 : ByteArray) (b : Nat) (w : World) (hF : F.answers w.tape) (hc : w.cell? ⟨b, 0, none⟩ = some (.iface 9 (.string nm))) (hc1 : w.cell? ⟨b, 1, none⟩ = some (.iface 9 (.string nm2))) :
    Calls Ybaf.prog 9 #[.string ⟨#[102, 117, 110, 99, 116, 105, 111, 110, 32, 37, 115, 32, 105, 115, 32, 110, 111, 116, 32, 114, 117, 110, 110, 105, 110, 103, 44, 32, 37, 115, 32, 105, 115, 58, 32, 97, 32, 102, 117, 110, 99, 116, 105, 111, 110, 32, 114, 101, 116, 117, 114, 110, 115, 32, 111, 110, 108, 121, 32, 102, 114, 111, 109, 32, 105, 116, 115, 101, 108, 102]⟩, .slice (some ⟨b, 0, none⟩) 2 2] w fun e w' => ∃ a, e = .returned (.iface 60 (.pointer (some a))) ∧ Below w.heap.size w w' := by
  have hF' := answers_open hF
  go_enter Ybaf.func9, Ybaf.ntmps9
  go_wp2
  go_ret
  exact ⟨_, rfl, by repeat (first | exact Below.refl _ _ | apply Below.drew | refine Below.alloc ?_ (by simp) _)⟩
end Go.Proofs.YbulkceiwFmt
