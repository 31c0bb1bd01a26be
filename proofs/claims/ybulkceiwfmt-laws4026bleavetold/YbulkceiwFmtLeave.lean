import Derived.Test.YbulkceiwFmtFacts
import Derived.Test.YbulkceiwFmtMap
import Derived.Deep.RegionHeld3
import Derived.Deep.DrawnRows
import Derived.BigQuiet
import Derived.Deep.QuietTactic
import Derived.BigRegion
namespace Go.Proofs.YbulkceiwFmt
open Go.Extern.Stop Go.Stop Go.Extern Go.RowKit
set_option linter.unusedVariables false
attribute [local go_sem ↓] Go.wp_at_zero Go.wp_at_succ

theorem top_any (P Bf m c : Nat) (w : World) (hm : m ≤ 1024) (hc : w.cell? ⟨P, 5, none⟩ = some (.slice (some ⟨Bf, 0, none⟩) (m + 1) c)) :
    Calls Ybaf.prog 8 #[.pointer (some ⟨P, 0, none⟩)] w fun e w' => e = .returned (.pointer (some ⟨Bf, m * 5, none⟩)) ∧ ∃ k, w' = w.drewN k := by
  have h1 : (0 : Int) ≤ m := by omega
  have h2 : (m : Int) ≤ 1024 := by omega
  have h3 : (m : Int) < (m : Int) + 1 := by omega
  go_enter Ybaf.func8, Ybaf.ntmps8
  go_wp2_with fail
  go_quiet (fail)
  go_wp2
  go_ret
  exact ⟨rfl, _, rfl⟩

theorem cell_putObj {w : World} {r b i : Nat} {o : Obj} (h : b ≠ r) : (w.putObj r o).cell? ⟨b, i, none⟩ = w.cell? ⟨b, i, none⟩ := World.cell?_of_block (World.putObj_heap_other h)
theorem frozen_putObj {w : World} {r b i : Nat} {o : Obj} (h : b ≠ r) : (w.putObj r o).frozen? ⟨b, i, none⟩ = w.frozen? ⟨b, i, none⟩ := World.frozen?_of_block (World.putObj_heap_other h)
theorem putObj_twice (w : World) (r : Nat) (o o' : Obj) : (w.putObj r o).putObj r o' = w.putObj r o' := by
  unfold World.putObj
  simp
theorem putObj_drew (w : World) (r : Nat) (o : Obj) : w.drew.putObj r o = (w.putObj r o).drew := rfl
theorem putObj_drewN (w : World) (k r : Nat) (o : Obj) : (w.drewN k).putObj r o = (w.putObj r o).drewN k := rfl

theorem alloc_drewN (w : World) (k : Nat) (o : Obj) : (w.drewN k).alloc o = (w.alloc o).drewN k := rfl
theorem setCell_drewN (w : World) (k : Nat) (a : Addr) (v : Value) : (w.drewN k).setCell a v = (w.setCell a v).drewN k := rfl
theorem belowN {B : Nat} {a w : World} (h : Below B a w) (n : Nat) : Below B a (w.drewN n) := h.trans ⟨rfl, rfl, rfl, Nat.le_refl _, fun _ _ => rfl⟩

/-- The block 'r' is there. -/
def InH (w : World) (r : Nat) : Prop := r < w.heap.size
/-- The block 'r' is the object 'o'. -/
def MapAt (w : World) (r : Nat) (o : Obj) : Prop := w.heap[r]? = some o
theorem InH_drew (w : World) (r : Nat) : InH w.drew r = InH w r := propext ⟨fun h => h, fun h => h⟩
theorem InH_drewN (w : World) (k r : Nat) : InH (w.drewN k) r = InH w r := propext ⟨fun h => h, fun h => h⟩
theorem InH_put (w : World) (r r' : Nat) (o : Obj) : InH (w.putObj r' o) r = InH w r := by simp [InH]
theorem MapAt_drew (w : World) (r : Nat) (o : Obj) : MapAt w.drew r o = MapAt w r o := propext ⟨fun h => h, fun h => h⟩
theorem MapAt_drewN (w : World) (k r : Nat) (o : Obj) : MapAt (w.drewN k) r o = MapAt w r o := propext ⟨fun h => h, fun h => h⟩
theorem MapAt_put (w : World) (r : Nat) (o : Obj) (h : InH w r) : MapAt (w.putObj r o) r o := World.putObj_heap_same h

attribute [local go_sem] alloc_drewN setCell_drewN cell_putObj frozen_putObj putObj_twice putObj_drew putObj_drewN InH_drew InH_drewN InH_put MapAt_drew MapAt_drewN MapAt_put

set_option maxRecDepth 10000 in
set_option maxHeartbeats 1000000 in
theorem ret_any (P Bf M m c : Nat) (a b s fa fv : ByteArray) (w : World) (hm : m ≤ 1024) (hmc : m + 1 ≤ c) (hP : P ≠ M) (hB : Bf ≠ M) (hMs : InH w M)
    (p1 : w.cell? ⟨P, 1, none⟩ = some (.map (some M))) (p5 : w.cell? ⟨P, 5, none⟩ = some (.slice (some ⟨Bf, 0, none⟩) (m + 1) c)) (fz : w.frozen? ⟨P, 5, none⟩ = false)
    (hM : MapAt w M (.map (ents a b s) 3)) (f3 : w.cell? ⟨Bf, m * 5 + 3, none⟩ = some (.string fa)) (f4 : w.cell? ⟨Bf, m * 5 + 4, none⟩ = some (.string fv)) :
    Calls Ybaf.prog 10 #[.pointer (some ⟨P, 0, none⟩)] w fun e w' => e = .returned (.tuple #[]) ∧ ∃ k, w' = ((w.putObj M (.map (ents fa fv s) 3)).setCell ⟨P, 5, none⟩ (.slice (some ⟨Bf, 0, none⟩) m c)).drewN k := by
  have h1 : (0 : Int) ≤ m := by omega
  have h2 : (m : Int) ≤ 1024 := by omega
  have h3 : (m : Int) ≤ c := by omega
  have e1 : ∀ W, MapAt W M _ → _ := fun W h => entryArgs a b s M W h
  have e2 : ∀ W, MapAt W M _ → _ := fun W h => entryArgs a fv s M W h
  have e3 : ∀ W, MapAt W M _ → _ := fun W h => entryArgv a b s M W h
  have e4 : ∀ W, MapAt W M _ → _ := fun W h => entryArgv fa b s M W h
  have s1 : ∀ W, MapAt W M _ → _ := fun W h => storeArgs a b s fa M W h
  have s2 : ∀ W, MapAt W M _ → _ := fun W h => storeArgs a fv s fa M W h
  have s3 : ∀ W, MapAt W M _ → _ := fun W h => storeArgv a b s fv M W h
  have s4 : ∀ W, MapAt W M _ → _ := fun W h => storeArgv fa b s fv M W h
  go_enter Ybaf.func10, Ybaf.ntmps10
  go_wp2_with (first | (go_at_call 8; refine (top_any P Bf m c _ hm (by exact p5)).mono ?_; rintro e w' ⟨rfl, k, rfl⟩))
  go_region_held3 (fun w' => InH w' M ∧ w'.cell? ⟨P, 1, none⟩ = some (.map (some M)) ∧ w'.cell? ⟨Bf, m * 5 + 3, none⟩ = some (.string fa) ∧ w'.cell? ⟨Bf, m * 5 + 4, none⟩ = some (.string fv)) (go_simp) (fail)
  clear e1 e2 e3 e4 s1 s2 s3 s4
  go_wp2_with fail
  go_region
  all_goals
    go_wp2
    go_end0
    exact ⟨rfl, _, rfl⟩

theorem leave_nil (F : Interp) (P Bf m c : Nat) (nm : ByteArray) (w : World) (hF : F.answers w.tape) (hm : m ≤ 1024)
    (p5 : w.cell? ⟨P, 5, none⟩ = some (.slice (some ⟨Bf, 0, none⟩) (m + 1) c)) (f0 : w.cell? ⟨Bf, m * 5, none⟩ = some (.pointer none)) :
    Calls Ybaf.prog 6 #[.pointer (some ⟨P, 0, none⟩), .string nm] w fun e w' => ∃ a, e = .returned (.iface 60 (.pointer (some a))) ∧ Below w.heap.size w w' := by
  go_enter Ybaf.func6, Ybaf.ntmps6
  go_wp2_with (first
    | (go_at_call 8; refine (top_any P Bf m c _ hm (by exact p5)).mono ?_; rintro e w' ⟨rfl, k, rfl⟩)
    | (go_at_call 9; refine (errorf1 F nm _ _ (by exact hF) (by go_simp)).mono ?_; rintro e w' ⟨a, rfl, hb⟩))
  go_ret
  refine ⟨a, rfl, ?_⟩
  refine Below.trans ?_ (hb.mono (by simp))
  repeat (first | exact Below.refl _ _ | apply Below.drew | refine Below.alloc ?_ (by simp) _ | refine belowN ?_ _)

theorem leave_other (F : Interp) (P Bf m c g : Nat) (nm fn : ByteArray) (w : World) (hF : F.answers w.tape) (hm : m ≤ 1024)
    (p5 : w.cell? ⟨P, 5, none⟩ = some (.slice (some ⟨Bf, 0, none⟩) (m + 1) c)) (f0 : w.cell? ⟨Bf, m * 5, none⟩ = some (.pointer (some ⟨g, 0, none⟩)))
    (g0 : w.cell? ⟨g, 0, none⟩ = some (.string fn)) (hne : (fn.toList == nm.toList) = false) :
    Calls Ybaf.prog 6 #[.pointer (some ⟨P, 0, none⟩), .string nm] w fun e w' => ∃ a, e = .returned (.iface 60 (.pointer (some a))) ∧ Below w.heap.size w w' := by
  go_enter Ybaf.func6, Ybaf.ntmps6
  go_wp2_with (first
    | (go_at_call 8; refine (top_any P Bf m c _ hm (by exact p5)).mono ?_; rintro e w' ⟨rfl, k, rfl⟩)
    | (go_at_call 9; refine (errorf2 F nm fn _ _ (by exact hF) (by go_simp) (by go_simp)).mono ?_; rintro e w' ⟨a, rfl, hb⟩))
  go_ret
  refine ⟨a, rfl, ?_⟩
  refine Below.trans ?_ (hb.mono (by simp))
  repeat (first | exact Below.refl _ _ | apply Below.drew | refine Below.alloc ?_ (by simp) _ | refine belowN ?_ _)

theorem leave_ok (P Bf M m c g : Nat) (a b s fa fv nm : ByteArray) (w : World) (hm : m ≤ 1024) (hmc : m + 1 ≤ c) (hP : P ≠ M) (hB : Bf ≠ M) (hMs : InH w M)
    (p1 : w.cell? ⟨P, 1, none⟩ = some (.map (some M))) (p5 : w.cell? ⟨P, 5, none⟩ = some (.slice (some ⟨Bf, 0, none⟩) (m + 1) c)) (fz : w.frozen? ⟨P, 5, none⟩ = false)
    (hM : MapAt w M (.map (ents a b s) 3)) (f0 : w.cell? ⟨Bf, m * 5, none⟩ = some (.pointer (some ⟨g, 0, none⟩)))
    (g0 : w.cell? ⟨g, 0, none⟩ = some (.string nm)) (f3 : w.cell? ⟨Bf, m * 5 + 3, none⟩ = some (.string fa)) (f4 : w.cell? ⟨Bf, m * 5 + 4, none⟩ = some (.string fv)) :
    Calls Ybaf.prog 6 #[.pointer (some ⟨P, 0, none⟩), .string nm] w fun e w' => e = .returned .nilIface ∧ ∃ k, w' = ((w.putObj M (.map (ents fa fv s) 3)).setCell ⟨P, 5, none⟩ (.slice (some ⟨Bf, 0, none⟩) m c)).drewN k := by
  go_enter Ybaf.func6, Ybaf.ntmps6
  go_wp2_with (first
    | (go_at_call 8; refine (top_any P Bf m c _ hm (by exact p5)).mono ?_; rintro e w' ⟨rfl, k, rfl⟩)
    | (go_at_call 10; refine (ret_any P Bf M m c a b s fa fv _ hm hmc hP hB (by exact hMs) (by exact p1) (by exact p5) (by exact fz) (by exact hM) (by exact f3) (by exact f4)).mono ?_; rintro e w' ⟨rfl, k2, rfl⟩))
  go_ret
  exact ⟨rfl, k + k2, rfl⟩
end Go.Proofs.YbulkceiwFmt
