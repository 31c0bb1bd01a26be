import Derived.Test.YbulkcegsFmtIs
import Derived.Stop.CallBack
import Derived.Stop.IfaceNil
import GoSem.ClaimData
import Derived.WalkKit
namespace Go.Proofs.YbulkcegsFmt
open Go.Extern.Stop Go.Stop Go.Extern Go.RowKit
set_option linter.unusedVariables false

/-! The closed facts for a walk over fmt's stopped front, at this dump's numbers. -/
@[go_sem] theorem Ybaf.call26 (args : Array Value) (w : World) : (callFunc 26 args).run Ybaf.prog w = ((FmtStop.errorf #[9, 88] #[38] args).run Ybaf.prog w).andThen fun v w' => .ok (.value v) w' :=
  run_callFunc_extern Ybaf.func26 (by kernel_rfl) (by kernel_rfl) (by kernel_rfl) (by kernel_rfl) args w
@[go_sem] theorem Ybaf.guard (name : String) (w : World) : (FmtStop.guard name).run Ybaf.prog w = .ok () w := by kernel_rfl
def Ybaf.shape9 : List UInt8 := [12, 6, 0, 0, 0, 0, 0, 0, 0, 115, 116, 114, 105, 110, 103]
def Ybaf.shape3 : List UInt8 := [5, 3, 0, 0, 0, 0, 0, 0, 0, 105, 110, 116]
def Ybaf.shape26 : List UInt8 := [9, 6, 0, 0, 0, 0, 0, 0, 0, 117, 105, 110, 116, 54, 52]
@[go_sem] theorem Ybaf.op9_115 (name : String) (x : ByteArray) (w : World) : (FmtStop.operand name false 115 false (.iface 9 (.string x))).run Ybaf.prog w = .ok (Ybaf.shape9, FmtStop.pack x.data.toList) w := by kernel_rfl
@[go_sem] theorem Ybaf.op9_115w (name : String) (x : ByteArray) (w : World) : (FmtStop.operand name true 115 false (.iface 9 (.string x))).run Ybaf.prog w = .ok (Ybaf.shape9, FmtStop.pack x.data.toList) w := by kernel_rfl
@[go_sem] theorem Ybaf.strict9 (name : String) (x : ByteArray) (w : World) : (FmtStop.strict name (.iface 9 (.string x))).run Ybaf.prog w = .ok (Ybaf.shape9, FmtStop.pack x.data.toList) w := by kernel_rfl
@[go_sem] theorem Ybaf.op3_100 (name : String) (x : Int) (w : World) : (FmtStop.operand name false 100 false (.iface 3 (.int .i64 x))).run Ybaf.prog w = .ok (Ybaf.shape3, Go.Extern.Stop.digits 8 (x % 2 ^ 64).toNat) w := by kernel_rfl
@[go_sem] theorem Ybaf.op3_100w (name : String) (x : Int) (w : World) : (FmtStop.operand name true 100 false (.iface 3 (.int .i64 x))).run Ybaf.prog w = .ok (Ybaf.shape3, Go.Extern.Stop.digits 8 (x % 2 ^ 64).toNat) w := by kernel_rfl
@[go_sem] theorem Ybaf.strict3 (name : String) (x : Int) (w : World) : (FmtStop.strict name (.iface 3 (.int .i64 x))).run Ybaf.prog w = .ok (Ybaf.shape3, Go.Extern.Stop.digits 8 (x % 2 ^ 64).toNat) w := by kernel_rfl
@[go_sem] theorem Ybaf.op26_100 (name : String) (x : Int) (w : World) : (FmtStop.operand name false 100 false (.iface 26 (.int .u64 x))).run Ybaf.prog w = .ok (Ybaf.shape26, Go.Extern.Stop.digits 8 (x % 2 ^ 64).toNat) w := by kernel_rfl
@[go_sem] theorem Ybaf.op26_100w (name : String) (x : Int) (w : World) : (FmtStop.operand name true 100 false (.iface 26 (.int .u64 x))).run Ybaf.prog w = .ok (Ybaf.shape26, Go.Extern.Stop.digits 8 (x % 2 ^ 64).toNat) w := by kernel_rfl
@[go_sem] theorem Ybaf.strict26 (name : String) (x : Int) (w : World) : (FmtStop.strict name (.iface 26 (.int .u64 x))).run Ybaf.prog w = .ok (Ybaf.shape26, Go.Extern.Stop.digits 8 (x % 2 ^ 64).toNat) w := by kernel_rfl
@[go_sem] theorem Ybaf.ptr66 (w : World) : (FmtStop.ptrTo "errors.errorString").run Ybaf.prog w = .ok 66 w := by kernel_rfl
@[go_sem] theorem Ybaf.elem66 (w : World) : (elemOf 66).run Ybaf.prog w = .ok 68 w := by kernel_rfl
@[go_sem] theorem Ybaf.isError66' (w : World) : (FmtDoors.textMethod 66 "Error").run Ybaf.prog w = .ok true w := by kernel_rfl

@[go_sem] theorem Ybaf.fmt1 : FmtStop.printed? ⟨#[37, 100, 32, 109, 101, 115, 115, 97, 103, 101, 115, 44, 32, 110, 111, 116, 32, 111, 110, 101, 32, 115, 116, 101, 112, 32, 109, 101, 115, 115, 97, 103, 101, 44, 32, 116, 119, 111, 32, 115, 116, 101, 112, 32, 109, 101, 115, 115, 97, 103, 101, 115, 32, 111, 114, 32, 111, 110, 101, 32, 103, 111, 115, 115, 105, 112]⟩ 1 = some [(0, 100, false)] := by kernel_rfl
@[go_sem] theorem Ybaf.fmt1r (w : World) : (FmtDoors.printed ⟨#[37, 100, 32, 109, 101, 115, 115, 97, 103, 101, 115, 44, 32, 110, 111, 116, 32, 111, 110, 101, 32, 115, 116, 101, 112, 32, 109, 101, 115, 115, 97, 103, 101, 44, 32, 116, 119, 111, 32, 115, 116, 101, 112, 32, 109, 101, 115, 115, 97, 103, 101, 115, 32, 111, 114, 32, 111, 110, 101, 32, 103, 111, 115, 115, 105, 112]⟩ 1).run Ybaf.prog w = .ok [(0, 100, false)] w := by kernel_rfl
@[go_sem] theorem Ybaf.fmt2 : FmtStop.printed? ⟨#[115, 116, 101, 112, 32, 109, 101, 115, 115, 97, 103, 101, 115, 32, 111, 102, 32, 116, 104, 101, 32, 37, 115, 32, 97, 110, 100, 32, 37, 115, 32, 112, 114, 111, 116, 111, 99, 111, 108, 115, 44, 32, 110, 111, 116, 32, 111, 110, 101]⟩ 2 = some [(0, 115, false), (1, 115, false)] := by kernel_rfl
@[go_sem] theorem Ybaf.fmt2r (w : World) : (FmtDoors.printed ⟨#[115, 116, 101, 112, 32, 109, 101, 115, 115, 97, 103, 101, 115, 32, 111, 102, 32, 116, 104, 101, 32, 37, 115, 32, 97, 110, 100, 32, 37, 115, 32, 112, 114, 111, 116, 111, 99, 111, 108, 115, 44, 32, 110, 111, 116, 32, 111, 110, 101]⟩ 2).run Ybaf.prog w = .ok [(0, 115, false), (1, 115, false)] w := by kernel_rfl
@[go_sem] theorem Ybaf.fmt3 : FmtStop.printed? ⟨#[97, 32, 115, 116, 101, 112, 32, 109, 101, 115, 115, 97, 103, 101, 32, 111, 102, 32, 116, 104, 101, 32, 37, 115, 32, 112, 114, 111, 116, 111, 99, 111, 108, 44, 32, 110, 111, 116, 32, 111, 102, 32, 116, 104, 101, 32, 37, 115, 32, 112, 114, 111, 116, 111, 99, 111, 108]⟩ 2 = some [(0, 115, false), (1, 115, false)] := by kernel_rfl
@[go_sem] theorem Ybaf.fmt3r (w : World) : (FmtDoors.printed ⟨#[97, 32, 115, 116, 101, 112, 32, 109, 101, 115, 115, 97, 103, 101, 32, 111, 102, 32, 116, 104, 101, 32, 37, 115, 32, 112, 114, 111, 116, 111, 99, 111, 108, 44, 32, 110, 111, 116, 32, 111, 102, 32, 116, 104, 101, 32, 37, 115, 32, 112, 114, 111, 116, 111, 99, 111, 108]⟩ 2).run Ybaf.prog w = .ok [(0, 115, false), (1, 115, false)] w := by kernel_rfl
@[go_sem] theorem Ybaf.fmt4 : FmtStop.printed? ⟨#[109, 101, 115, 115, 97, 103, 101, 32, 37, 100, 32, 105, 115, 32, 105, 110, 32, 116, 104, 101, 32, 110, 97, 109, 101, 32, 111, 102, 32, 110, 111, 100, 101, 32, 37, 115, 44, 32, 110, 111, 116, 32, 37, 115]⟩ 3 = some [(0, 100, false), (1, 115, false), (2, 115, false)] := by kernel_rfl
@[go_sem] theorem Ybaf.fmt4r (w : World) : (FmtDoors.printed ⟨#[109, 101, 115, 115, 97, 103, 101, 32, 37, 100, 32, 105, 115, 32, 105, 110, 32, 116, 104, 101, 32, 110, 97, 109, 101, 32, 111, 102, 32, 110, 111, 100, 101, 32, 37, 115, 44, 32, 110, 111, 116, 32, 37, 115]⟩ 3).run Ybaf.prog w = .ok [(0, 100, false), (1, 115, false), (2, 115, false)] w := by kernel_rfl
@[go_sem] theorem Ybaf.fmt5 : FmtStop.printed? ⟨#[109, 101, 115, 115, 97, 103, 101, 32, 37, 100, 32, 100, 111, 101, 115, 32, 110, 111, 116, 32, 118, 101, 114, 105, 102, 121, 32, 119, 105, 116, 104, 32, 116, 104, 101, 32, 107, 101, 121, 32, 111, 102, 32, 110, 111, 100, 101, 32, 37, 115]⟩ 2 = some [(0, 100, false), (1, 115, false)] := by kernel_rfl
@[go_sem] theorem Ybaf.fmt5r (w : World) : (FmtDoors.printed ⟨#[109, 101, 115, 115, 97, 103, 101, 32, 37, 100, 32, 100, 111, 101, 115, 32, 110, 111, 116, 32, 118, 101, 114, 105, 102, 121, 32, 119, 105, 116, 104, 32, 116, 104, 101, 32, 107, 101, 121, 32, 111, 102, 32, 110, 111, 100, 101, 32, 37, 115]⟩ 2).run Ybaf.prog w = .ok [(0, 100, false), (1, 115, false)] w := by kernel_rfl
@[go_sem] theorem Ybaf.fmt6 : FmtStop.printed? ⟨#[115, 116, 101, 112, 32, 37, 100, 32, 109, 101, 115, 115, 97, 103, 101, 32, 111, 102, 32, 110, 111, 100, 101, 32, 37, 115, 32, 107, 101, 101, 112, 115, 32, 116, 104, 101, 32, 37, 115, 32, 112, 114, 111, 116, 111, 99, 111, 108, 39, 115, 32, 114, 117, 108, 101]⟩ 3 = some [(0, 100, false), (1, 115, false), (2, 115, false)] := by kernel_rfl
@[go_sem] theorem Ybaf.fmt6r (w : World) : (FmtDoors.printed ⟨#[115, 116, 101, 112, 32, 37, 100, 32, 109, 101, 115, 115, 97, 103, 101, 32, 111, 102, 32, 110, 111, 100, 101, 32, 37, 115, 32, 107, 101, 101, 112, 115, 32, 116, 104, 101, 32, 37, 115, 32, 112, 114, 111, 116, 111, 99, 111, 108, 39, 115, 32, 114, 117, 108, 101]⟩ 3).run Ybaf.prog w = .ok [(0, 100, false), (1, 115, false), (2, 115, false)] w := by kernel_rfl
@[go_sem] theorem Ybaf.fmt7 : FmtStop.printed? ⟨#[115, 116, 101, 112, 32, 109, 101, 115, 115, 97, 103, 101, 115, 32, 102, 111, 114, 32, 115, 116, 101, 112, 115, 32, 37, 100, 32, 97, 110, 100, 32, 37, 100, 44, 32, 110, 111, 116, 32, 111, 110, 101, 32, 115, 116, 101, 112]⟩ 2 = some [(0, 100, false), (1, 100, false)] := by kernel_rfl
@[go_sem] theorem Ybaf.fmt7r (w : World) : (FmtDoors.printed ⟨#[115, 116, 101, 112, 32, 109, 101, 115, 115, 97, 103, 101, 115, 32, 102, 111, 114, 32, 115, 116, 101, 112, 115, 32, 37, 100, 32, 97, 110, 100, 32, 37, 100, 44, 32, 110, 111, 116, 32, 111, 110, 101, 32, 115, 116, 101, 112]⟩ 2).run Ybaf.prog w = .ok [(0, 100, false), (1, 100, false)] w := by kernel_rfl
@[go_sem] theorem Ybaf.fmt8 : FmtStop.printed? ⟨#[116, 104, 101, 32, 115, 97, 109, 101, 32, 115, 116, 101, 112, 32, 37, 100, 32, 109, 101, 115, 115, 97, 103, 101, 32, 116, 119, 105, 99, 101]⟩ 1 = some [(0, 100, false)] := by kernel_rfl
@[go_sem] theorem Ybaf.fmt8r (w : World) : (FmtDoors.printed ⟨#[116, 104, 101, 32, 115, 97, 109, 101, 32, 115, 116, 101, 112, 32, 37, 100, 32, 109, 101, 115, 115, 97, 103, 101, 32, 116, 119, 105, 99, 101]⟩ 1).run Ybaf.prog w = .ok [(0, 100, false)] w := by kernel_rfl
@[go_sem] theorem Ybaf.fmt9 : FmtStop.printed? ⟨#[115, 116, 101, 112, 32, 37, 100, 32, 109, 101, 115, 115, 97, 103, 101, 32, 100, 111, 101, 115, 32, 110, 111, 116, 32, 118, 101, 114, 105, 102, 121, 32, 119, 105, 116, 104, 32, 116, 104, 101, 32, 107, 101, 121, 32, 111, 102, 32, 110, 111, 100, 101, 32, 37, 115]⟩ 2 = some [(0, 100, false), (1, 115, false)] := by kernel_rfl
@[go_sem] theorem Ybaf.fmt9r (w : World) : (FmtDoors.printed ⟨#[115, 116, 101, 112, 32, 37, 100, 32, 109, 101, 115, 115, 97, 103, 101, 32, 100, 111, 101, 115, 32, 110, 111, 116, 32, 118, 101, 114, 105, 102, 121, 32, 119, 105, 116, 104, 32, 116, 104, 101, 32, 107, 101, 121, 32, 111, 102, 32, 110, 111, 100, 101, 32, 37, 115]⟩ 2).run Ybaf.prog w = .ok [(0, 100, false), (1, 115, false)] w := by kernel_rfl

set_option maxRecDepth 100000 in
theorem efmt1 (F : Interp) (x0 : Int) (b : Nat) (w : World) (hF : F.answers w.tape) (hc0 : w.cell? ⟨b, 0, none⟩ = some (.iface 3 (.int .i64 x0))) :
    Calls Ybaf.prog 15 #[.string ⟨#[37, 100, 32, 109, 101, 115, 115, 97, 103, 101, 115, 44, 32, 110, 111, 116, 32, 111, 110, 101, 32, 115, 116, 101, 112, 32, 109, 101, 115, 115, 97, 103, 101, 44, 32, 116, 119, 111, 32, 115, 116, 101, 112, 32, 109, 101, 115, 115, 97, 103, 101, 115, 32, 111, 114, 32, 111, 110, 101, 32, 103, 111, 115, 115, 105, 112]⟩, .slice (some ⟨b, 0, none⟩) 1 1] w fun e w' => ∃ a, e = .returned (.iface 66 (.pointer (some a))) ∧ Below w.heap.size w w' := by
  have hF' := answers_open hF
  go_enter Ybaf.func15, Ybaf.ntmps15
  go_wp2
  go_ret
  exact ⟨_, rfl, by repeat (first | exact Below.refl _ _ | apply Below.drew | refine Below.alloc ?_ (by simp) _)⟩

theorem efmt2 (F : Interp) (x0 : ByteArray) (x1 : ByteArray) (b : Nat) (w : World) (hF : F.answers w.tape) (hc0 : w.cell? ⟨b, 0, none⟩ = some (.iface 9 (.string x0))) (hc1 : w.cell? ⟨b, 1, none⟩ = some (.iface 9 (.string x1))) :
    Calls Ybaf.prog 15 #[.string ⟨#[115, 116, 101, 112, 32, 109, 101, 115, 115, 97, 103, 101, 115, 32, 111, 102, 32, 116, 104, 101, 32, 37, 115, 32, 97, 110, 100, 32, 37, 115, 32, 112, 114, 111, 116, 111, 99, 111, 108, 115, 44, 32, 110, 111, 116, 32, 111, 110, 101]⟩, .slice (some ⟨b, 0, none⟩) 2 2] w fun e w' => ∃ a, e = .returned (.iface 66 (.pointer (some a))) ∧ Below w.heap.size w w' := by
  have hF' := answers_open hF
  go_enter Ybaf.func15, Ybaf.ntmps15
  go_wp2
  go_ret
  exact ⟨_, rfl, by repeat (first | exact Below.refl _ _ | apply Below.drew | refine Below.alloc ?_ (by simp) _)⟩

theorem efmt3 (F : Interp) (x0 : ByteArray) (x1 : ByteArray) (b : Nat) (w : World) (hF : F.answers w.tape) (hc0 : w.cell? ⟨b, 0, none⟩ = some (.iface 9 (.string x0))) (hc1 : w.cell? ⟨b, 1, none⟩ = some (.iface 9 (.string x1))) :
    Calls Ybaf.prog 15 #[.string ⟨#[97, 32, 115, 116, 101, 112, 32, 109, 101, 115, 115, 97, 103, 101, 32, 111, 102, 32, 116, 104, 101, 32, 37, 115, 32, 112, 114, 111, 116, 111, 99, 111, 108, 44, 32, 110, 111, 116, 32, 111, 102, 32, 116, 104, 101, 32, 37, 115, 32, 112, 114, 111, 116, 111, 99, 111, 108]⟩, .slice (some ⟨b, 0, none⟩) 2 2] w fun e w' => ∃ a, e = .returned (.iface 66 (.pointer (some a))) ∧ Below w.heap.size w w' := by
  have hF' := answers_open hF
  go_enter Ybaf.func15, Ybaf.ntmps15
  go_wp2
  go_ret
  exact ⟨_, rfl, by repeat (first | exact Below.refl _ _ | apply Below.drew | refine Below.alloc ?_ (by simp) _)⟩

theorem efmt4 (F : Interp) (x0 : Int) (x1 : ByteArray) (x2 : ByteArray) (b : Nat) (w : World) (hF : F.answers w.tape) (hc0 : w.cell? ⟨b, 0, none⟩ = some (.iface 3 (.int .i64 x0))) (hc1 : w.cell? ⟨b, 1, none⟩ = some (.iface 9 (.string x1))) (hc2 : w.cell? ⟨b, 2, none⟩ = some (.iface 9 (.string x2))) :
    Calls Ybaf.prog 15 #[.string ⟨#[109, 101, 115, 115, 97, 103, 101, 32, 37, 100, 32, 105, 115, 32, 105, 110, 32, 116, 104, 101, 32, 110, 97, 109, 101, 32, 111, 102, 32, 110, 111, 100, 101, 32, 37, 115, 44, 32, 110, 111, 116, 32, 37, 115]⟩, .slice (some ⟨b, 0, none⟩) 3 3] w fun e w' => ∃ a, e = .returned (.iface 66 (.pointer (some a))) ∧ Below w.heap.size w w' := by
  have hF' := answers_open hF
  go_enter Ybaf.func15, Ybaf.ntmps15
  go_wp2
  go_ret
  exact ⟨_, rfl, by repeat (first | exact Below.refl _ _ | apply Below.drew | refine Below.alloc ?_ (by simp) _)⟩

theorem efmt5 (F : Interp) (x0 : Int) (x1 : ByteArray) (b : Nat) (w : World) (hF : F.answers w.tape) (hc0 : w.cell? ⟨b, 0, none⟩ = some (.iface 3 (.int .i64 x0))) (hc1 : w.cell? ⟨b, 1, none⟩ = some (.iface 9 (.string x1))) :
    Calls Ybaf.prog 15 #[.string ⟨#[109, 101, 115, 115, 97, 103, 101, 32, 37, 100, 32, 100, 111, 101, 115, 32, 110, 111, 116, 32, 118, 101, 114, 105, 102, 121, 32, 119, 105, 116, 104, 32, 116, 104, 101, 32, 107, 101, 121, 32, 111, 102, 32, 110, 111, 100, 101, 32, 37, 115]⟩, .slice (some ⟨b, 0, none⟩) 2 2] w fun e w' => ∃ a, e = .returned (.iface 66 (.pointer (some a))) ∧ Below w.heap.size w w' := by
  have hF' := answers_open hF
  go_enter Ybaf.func15, Ybaf.ntmps15
  go_wp2
  go_ret
  exact ⟨_, rfl, by repeat (first | exact Below.refl _ _ | apply Below.drew | refine Below.alloc ?_ (by simp) _)⟩

theorem efmt6 (F : Interp) (x0 : Int) (x1 : ByteArray) (x2 : ByteArray) (b : Nat) (w : World) (hF : F.answers w.tape) (hc0 : w.cell? ⟨b, 0, none⟩ = some (.iface 26 (.int .u64 x0))) (hc1 : w.cell? ⟨b, 1, none⟩ = some (.iface 9 (.string x1))) (hc2 : w.cell? ⟨b, 2, none⟩ = some (.iface 9 (.string x2))) :
    Calls Ybaf.prog 15 #[.string ⟨#[115, 116, 101, 112, 32, 37, 100, 32, 109, 101, 115, 115, 97, 103, 101, 32, 111, 102, 32, 110, 111, 100, 101, 32, 37, 115, 32, 107, 101, 101, 112, 115, 32, 116, 104, 101, 32, 37, 115, 32, 112, 114, 111, 116, 111, 99, 111, 108, 39, 115, 32, 114, 117, 108, 101]⟩, .slice (some ⟨b, 0, none⟩) 3 3] w fun e w' => ∃ a, e = .returned (.iface 66 (.pointer (some a))) ∧ Below w.heap.size w w' := by
  have hF' := answers_open hF
  go_enter Ybaf.func15, Ybaf.ntmps15
  go_wp2
  go_ret
  exact ⟨_, rfl, by repeat (first | exact Below.refl _ _ | apply Below.drew | refine Below.alloc ?_ (by simp) _)⟩

theorem efmt7 (F : Interp) (x0 : Int) (x1 : Int) (b : Nat) (w : World) (hF : F.answers w.tape) (hc0 : w.cell? ⟨b, 0, none⟩ = some (.iface 26 (.int .u64 x0))) (hc1 : w.cell? ⟨b, 1, none⟩ = some (.iface 26 (.int .u64 x1))) :
    Calls Ybaf.prog 15 #[.string ⟨#[115, 116, 101, 112, 32, 109, 101, 115, 115, 97, 103, 101, 115, 32, 102, 111, 114, 32, 115, 116, 101, 112, 115, 32, 37, 100, 32, 97, 110, 100, 32, 37, 100, 44, 32, 110, 111, 116, 32, 111, 110, 101, 32, 115, 116, 101, 112]⟩, .slice (some ⟨b, 0, none⟩) 2 2] w fun e w' => ∃ a, e = .returned (.iface 66 (.pointer (some a))) ∧ Below w.heap.size w w' := by
  have hF' := answers_open hF
  go_enter Ybaf.func15, Ybaf.ntmps15
  go_wp2
  go_ret
  exact ⟨_, rfl, by repeat (first | exact Below.refl _ _ | apply Below.drew | refine Below.alloc ?_ (by simp) _)⟩

theorem efmt8 (F : Interp) (x0 : Int) (b : Nat) (w : World) (hF : F.answers w.tape) (hc0 : w.cell? ⟨b, 0, none⟩ = some (.iface 26 (.int .u64 x0))) :
    Calls Ybaf.prog 15 #[.string ⟨#[116, 104, 101, 32, 115, 97, 109, 101, 32, 115, 116, 101, 112, 32, 37, 100, 32, 109, 101, 115, 115, 97, 103, 101, 32, 116, 119, 105, 99, 101]⟩, .slice (some ⟨b, 0, none⟩) 1 1] w fun e w' => ∃ a, e = .returned (.iface 66 (.pointer (some a))) ∧ Below w.heap.size w w' := by
  have hF' := answers_open hF
  go_enter Ybaf.func15, Ybaf.ntmps15
  go_wp2
  go_ret
  exact ⟨_, rfl, by repeat (first | exact Below.refl _ _ | apply Below.drew | refine Below.alloc ?_ (by simp) _)⟩

theorem efmt9 (F : Interp) (x0 : Int) (x1 : ByteArray) (b : Nat) (w : World) (hF : F.answers w.tape) (hc0 : w.cell? ⟨b, 0, none⟩ = some (.iface 26 (.int .u64 x0))) (hc1 : w.cell? ⟨b, 1, none⟩ = some (.iface 9 (.string x1))) :
    Calls Ybaf.prog 15 #[.string ⟨#[115, 116, 101, 112, 32, 37, 100, 32, 109, 101, 115, 115, 97, 103, 101, 32, 100, 111, 101, 115, 32, 110, 111, 116, 32, 118, 101, 114, 105, 102, 121, 32, 119, 105, 116, 104, 32, 116, 104, 101, 32, 107, 101, 121, 32, 111, 102, 32, 110, 111, 100, 101, 32, 37, 115]⟩, .slice (some ⟨b, 0, none⟩) 2 2] w fun e w' => ∃ a, e = .returned (.iface 66 (.pointer (some a))) ∧ Below w.heap.size w w' := by
  have hF' := answers_open hF
  go_enter Ybaf.func15, Ybaf.ntmps15
  go_wp2
  go_ret
  exact ⟨_, rfl, by repeat (first | exact Below.refl _ _ | apply Below.drew | refine Below.alloc ?_ (by simp) _)⟩
end Go.Proofs.YbulkcegsFmt
