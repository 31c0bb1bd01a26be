import Derived.Test.YbulkcejyMsr
import Derived.Test.YbulkcejyBack
import Derived.Deep.RegionHeld3
import Derived.Deep.OwnRows
namespace Go.Proofs.Ybulkcejy
open Go.RowKit
set_option linter.unusedVariables false
attribute [local go_sem] Oper.semAt_some
attribute [local go_sem ↓] Go.wp_at_zero Go.wp_at_succ
theorem Yba.info37 : (Yba.prog.info? 37).map (fun i => (i.zero, i.size, i.bytes)) = some (some (.slice none 0 0), 1, 24) := by kernel_rfl
theorem Yba.info4 : (Yba.prog.info? 4).map (fun i => (i.zero, i.size, i.bytes)) = some (some (.bool false), 1, 1) := by kernel_rfl
theorem make30 (N : Nat) (hN : N ≤ 100) (w : World) : (Instr.makeSlice 30 (.int .i64 (N : Int)) (.int .i64 (N : Int))).run Yba.prog w = .ok (.slice (some ⟨w.heap.size, 0, none⟩) N N) (w.alloc (.cells (madeCells #[.slice none 0 0] N) 37)) :=
  run_make_row' 30 37 _ 24 Yba.underlying30 Yba.info37 rfl _ _ N (by omega) (by omega) w
theorem make37 (N : Nat) (hN : N ≤ 100) (w : World) : (Instr.makeSlice 37 (.int .i64 (N : Int)) (.int .i64 (N : Int))).run Yba.prog w = .ok (.slice (some ⟨w.heap.size, 0, none⟩) N N) (w.alloc (.cells (madeCells #[.int .i64 0] N) 3)) :=
  run_make_row' 37 3 _ 8 Yba.underlying37 Yba.info3 rfl _ _ N (by omega) (by omega) w
theorem new5 (W : World) (o1 o2 o3 o4 o5 : Obj) : (((((W.alloc o1).alloc o2).alloc o3).alloc o4).alloc o5).heap[W.heap.size]? = some o1 ∧ (((((W.alloc o1).alloc o2).alloc o3).alloc o4).alloc o5).heap[W.heap.size + 1]? = some o2 ∧ (((((W.alloc o1).alloc o2).alloc o3).alloc o4).alloc o5).heap[W.heap.size + 1 + 1]? = some o3 ∧ (((((W.alloc o1).alloc o2).alloc o3).alloc o4).alloc o5).heap[W.heap.size + 1 + 1 + 1]? = some o4 ∧ (((((W.alloc o1).alloc o2).alloc o3).alloc o4).alloc o5).heap[W.heap.size + 1 + 1 + 1 + 1]? = some o5 := by
  have k : ∀ (V : World) (o : Obj) (i : Nat), i < V.heap.size → (V.alloc o).heap[i]? = V.heap[i]? := fun V o i hi => Below.heap_alloc _ _ _ hi
  have s : ∀ (V : World) (o : Obj), (V.alloc o).heap.size = V.heap.size + 1 := fun V o => World.size_alloc V o
  have n : ∀ (V : World) (o : Obj), (V.alloc o).heap[V.heap.size]? = some o := World.alloc_heap_new
  refine ⟨?_, ?_, ?_, ?_, ?_⟩
  · rw [k _ _ _ (by simp only [s]; omega), k _ _ _ (by simp only [s]; omega), k _ _ _ (by simp only [s]; omega), k _ _ _ (by simp only [s]; omega), n]
  · rw [k _ _ _ (by simp only [s]; omega), k _ _ _ (by simp only [s]; omega), k _ _ _ (by simp only [s]; omega), ← s W o1, n]
  · rw [k _ _ _ (by simp only [s]; omega), k _ _ _ (by simp only [s]; omega), ← s W o1, ← s _ o2, n]
  · rw [k _ _ _ (by simp only [s]; omega), ← s W o1, ← s _ o2, ← s _ o3, n]
  · rw [← s W o1, ← s _ o2, ← s _ o3, ← s _ o4, n]
structure NewAt (W W' : World) (N : Nat) (unb : Int) (b0 b1 b4 b5 b6 : Nat) : Prop where
  bel : Below W.heap.size W W'
  h0 : W'.heap[b0]? = some (.cells #[.slice (some ⟨b1, 0, none⟩) N N, .slice none 0 0, .slice none 0 0, .int .i64 0, .int .i64 unb, .slice (some ⟨b4, 0, none⟩) N N, .slice (some ⟨b5, 0, none⟩) N N, .int .i64 0, .slice none 0 0, .slice (some ⟨b6, 0, none⟩) N N, .slice none 0 0] 49)
  h1 : W'.heap[b1]? = some (.cells (madeCells #[.slice none 0 0] N) 37)
  h4 : W'.heap[b4]? = some (.cells (madeCells #[.int .i64 0] N) 3)
  h5 : W'.heap[b5]? = some (.cells (madeCells #[.int .i64 0] N) 3)
  h6 : W'.heap[b6]? = some (.cells (madeCells #[.int .i64 0] N) 3)
  ge : W.heap.size ≤ b0 ∧ W.heap.size ≤ b1 ∧ W.heap.size ≤ b4 ∧ W.heap.size ≤ b5 ∧ W.heap.size ≤ b6
  ne : b0 ≠ b1 ∧ b0 ≠ b4 ∧ b0 ≠ b5 ∧ b0 ≠ b6 ∧ b1 ≠ b4 ∧ b1 ≠ b5 ∧ b1 ≠ b6 ∧ b4 ≠ b5 ∧ b4 ≠ b6 ∧ b5 ≠ b6
def NewOut (W : World) (N : Nat) (unb : Int) (e : Ending) (W' : World) : Prop := ∃ b0 b1 b4 b5 b6, e = .returned (.pointer (some ⟨b0, 0, none⟩)) ∧ NewAt W W' N unb b0 b1 b4 b5 b6
set_option maxRecDepth 100000 in
set_option maxHeartbeats 8000000 in
theorem newNetwork_calls (N : Nat) (unb : Int) (W : World) (hN : N ≤ 100) :
    Calls Yba.prog 10 #[.int .i64 (N : Int), .int .i64 unb] W (NewOut W N unb) := by
  have h0 : (0 : Int) ≤ (N : Int) := by omega
  have h1 : (N : Int) ≤ 100 := by omega
  have m30 := make30 N hN
  have m37 := make37 N hN
  go_enter Yba.func10, Yba.ntmps10
  go_wp2_with fail
  go_region_held3 (fun _ => True) (trivial) (fail)
  all_goals (clear m30 m37; go_wp2_with fail; go_ret)
  all_goals (refine ⟨_, _, _, _, _, rfl, ⟨(((((((Below.refl _ _).alloc (Nat.le_refl _) _).alloc (by simp) _).alloc (by simp; omega) _).alloc (by simp; omega) _).alloc (by simp; omega) _)).drew, (new5 W _ _ _ _ _).2.2.2.2, ?_, ?_, ?_, ?_, ?_, ?_⟩⟩)
  all_goals first | exact (new5 W _ _ _ _ _).1 | exact (new5 W _ _ _ _ _).2.1 | exact (new5 W _ _ _ _ _).2.2.1 | exact (new5 W _ _ _ _ _).2.2.2.1 | (refine ⟨?_, ?_, ?_, ?_, ?_⟩ <;> omega) | (refine ⟨?_, ?_, ?_, ?_, ?_, ?_, ?_, ?_, ?_, ?_⟩ <;> omega)
end Go.Proofs.Ybulkcejy
