import Derived.Test.YbulkcegsFmtAs2
import Derived.WalkSpells
import Derived.WalkLawsBesides
import Derived.Below
import Derived.Outline
namespace Go.Proofs.YbulkcegsFmt
open Go.RowKit Go.Extern.Stop Go.Stop Go.Extern
set_option linter.unusedVariables false

/-- errors.errorType as the program's text lays it. -/
def ErrT (w : World) : Prop := w.cell? ⟨0, 0, none⟩ = some (.iface 113 (.agg #[.pointer (some ⟨1, 38, none⟩)]))
theorem ErrT.lt {w : World} (h : ErrT w) : 0 < w.heap.size := by
  rcases Nat.eq_zero_or_pos w.heap.size with h0 | h1
  · simp [ErrT, World.cell?, h0] at h
  · exact h1
theorem ErrT.below {w w' : World} (h : ErrT w) {n : Nat} (hb : Below n w w') (hn : 0 < n) : ErrT w' := (hb.cell (p := ⟨0, 0, none⟩) hn).trans h

theorem fails_nil (w : World) : Calls Ybaf.prog 20 #[.nilIface] w fun e w' => e = .returned (.bool false) ∧ Below w.heap.size w w' := by
  go_enter Ybaf.func20, Ybaf.ntmps20
  go_wp2_with fail
  go_ret
  exact ⟨rfl, (Below.refl _ _).alloc (Nat.le_refl _) _⟩

theorem fails_plain (a : Addr) (w : World) (hg : ErrT w) : Calls Ybaf.prog 20 #[.iface 66 (.pointer (some a))] w fun e w' => e = .returned (.bool true) ∧ Below w.heap.size w w' := by
  have h0 := hg.lt
  have hb0 : Below w.heap.size w (w.alloc (.cells #[.pointer none] 40)) := (Below.refl _ _).alloc (Nat.le_refl _) _
  go_enter Ybaf.func20, Ybaf.ntmps20
  go_wp2_with fail
  refine (as_miss a _ _ (hg.below hb0 h0)).mono ?_
  rintro e w' ⟨rfl, rfl⟩
  go_wp2_with fail
  go_ret
  refine ⟨rfl, ?_⟩
  repeat (first | exact Below.refl _ _ | apply Below.drew | refine Below.alloc ?_ (by first | omega | (simp <;> omega)) _)

theorem fails_nokey (a : Addr) (w : World) (hg : ErrT w) : Calls Ybaf.prog 20 #[.iface 40 (.pointer (some a))] w fun e w' => e = .returned (.bool false) ∧ Below w.heap.size w w' := by
  have h0 := hg.lt
  have hb0 : Below w.heap.size w (w.alloc (.cells #[.pointer none] 40)) := (Below.refl _ _).alloc (Nat.le_refl _) _
  go_enter Ybaf.func20, Ybaf.ntmps20
  go_wp2_with fail
  refine (as_hit a ⟨w.heap.size, 0, none⟩ (.pointer none) _ (hg.below hb0 h0) (by simp) (by simp)).mono ?_
  rintro e w' ⟨rfl, rfl⟩
  go_wp2_with fail
  go_ret
  refine ⟨rfl, ?_⟩
  repeat (first | exact Below.refl _ _ | apply Below.drew | refine Below.alloc ?_ (by first | omega | (simp <;> omega)) _)

theorem is_nil (node : ByteArray) (res : Value) (w : World) : Calls Ybaf.prog 13 #[.nilIface, .int .i64 0, .string node, res] w fun e w' => e = .returned (.bool true) ∧ Below w.heap.size w w' := by
  go_enter Ybaf.func13, Ybaf.ntmps13
  go_wp2_with fail
  go_ret
  exact ⟨rfl, (Below.refl _ _).alloc (Nat.le_refl _) _⟩

theorem is_plain (a : Addr) (node : ByteArray) (res : Value) (w : World) (hg : ErrT w) : Calls Ybaf.prog 13 #[.iface 66 (.pointer (some a)), .int .i64 2, .string node, res] w fun e w' => e = .returned (.bool true) ∧ Below w.heap.size w w' := by
  have h0 := hg.lt
  have hb0 : Below w.heap.size w (w.alloc (.cells #[.pointer none] 40)) := (Below.refl _ _).alloc (Nat.le_refl _) _
  go_enter Ybaf.func13, Ybaf.ntmps13
  go_wp2_with fail
  refine (as_miss a _ _ (hg.below hb0 h0)).mono ?_
  rintro e w' ⟨rfl, rfl⟩
  go_wp2_with fail
  go_ret
  refine ⟨rfl, ?_⟩
  repeat (first | exact Below.refl _ _ | apply Below.drew | refine Below.alloc ?_ (by first | omega | (simp <;> omega)) _)

theorem is_same (a : Addr) (node : ByteArray) (w : World) : Calls Ybaf.prog 13 #[.iface 40 (.pointer (some a)), .int .i64 3, .string node, .iface 40 (.pointer (some a))] w fun e w' => e = .returned (.bool true) ∧ Below w.heap.size w w' := by
  obtain ⟨i, hi, hci⟩ := Option.map_eq_some_iff.1 (show (Ybaf.prog.info? 40).map (fun i => i.comparable) = some true from by kernel_rfl)
  obtain ⟨j, hj, _⟩ := Option.map_eq_some_iff.1 (show (Ybaf.prog.info? 42).map (fun _ => ()) = some () from by kernel_rfl)
  have he := fun w => run_eql_iface_ptr_same (P := Ybaf.prog) w a Ybaf.underlying38 Ybaf.underlying40 hi hci hj
  go_enter Ybaf.func13, Ybaf.ntmps13
  go_wp2_with fail
  go_ret
  exact ⟨rfl, (Below.refl _ _).alloc (Nat.le_refl _) _⟩

theorem is_nokey (g h : Nat) (c : Nat) (node : ByteArray) (res : Value) (w : World) (hg : ErrT w) (c0 : w.cell? ⟨g, 0, none⟩ = some (.slice (some ⟨h, 0, none⟩) 1 c)) (c1 : w.cell? ⟨h, 0, none⟩ = some (.string node)) :
    Calls Ybaf.prog 13 #[.iface 40 (.pointer (some ⟨g, 0, none⟩)), .int .i64 1, .string node, res] w fun e w' => e = .returned (.bool true) ∧ Below w.heap.size w w' := by
  have h0 := hg.lt
  have hb0 : Below w.heap.size w (w.alloc (.cells #[.pointer none] 40)) := (Below.refl _ _).alloc (Nat.le_refl _) _
  have hgl := World.block_lt_of_cell? w _ c0
  have hhl := World.block_lt_of_cell? w _ c1
  simp only at hgl hhl
  go_enter Ybaf.func13, Ybaf.ntmps13
  go_wp2_with fail
  refine (as_hit ⟨g, 0, none⟩ ⟨w.heap.size, 0, none⟩ (.pointer none) _ (hg.below hb0 h0) (by simp) (by simp)).mono ?_
  rintro e w' ⟨rfl, rfl⟩
  have t1 : g < w.heap.size + 1 := by omega
  have t2 : g < w.heap.size + 1 + 1 := by omega
  have t3 : g < w.heap.size + 1 + 1 + 1 := by omega
  have t4 : g < w.heap.size + 1 + 1 + 1 + 1 := by omega
  have s1 : h < w.heap.size + 1 := by omega
  have s2 : h < w.heap.size + 1 + 1 := by omega
  have s3 : h < w.heap.size + 1 + 1 + 1 := by omega
  have s4 : h < w.heap.size + 1 + 1 + 1 + 1 := by omega
  go_wp2_with fail
  go_ret
  refine ⟨rfl, ?_⟩
  repeat (first | exact Below.refl _ _ | apply Below.drew | refine Below.alloc ?_ (by first | omega | (simp <;> omega)) _)
end Go.Proofs.YbulkcegsFmt
