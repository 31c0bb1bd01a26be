import Derived.Test.YbulkcegeTime
import Derived.Deep.RegionHeld3
import Derived.Deep.DrawnRows
namespace Go.Proofs.Ybulkcege
open Go.RowKit
set_option linter.unusedVariables false
attribute [local go_sem ↓] Go.wp_at_zero Go.wp_at_succ

/-- 'Add' told by letters: the sum's nanoseconds and seconds. -/
theorem add_x (r q d : Int) (w : World) (h0 : 0 ≤ r) (h1 : r < 1000000000)
    (q0 : -100000000 ≤ q) (q1 : q ≤ 100000000) (d0 : -100000000000000 ≤ d) (d1 : d ≤ 100000000000000) :
    Calls Yba.prog 6 #[timeV r q, .int .i64 d] w fun e w' => ∃ r' q' : Int, e = .returned (timeV r' q') ∧
      w' = (w.alloc (.cells (timeC r' q') 29)).alloc (.cells (timeC r' q') 29) ∧ 0 ≤ r' ∧ r' < 1000000000 ∧ Hid (q' * 1000000000 + r' = q * 1000000000 + r + d) := by
  refine (add_any r q d w h0 h1 q0 q1 d0 d1).mono ?_
  rintro e w' ⟨rfl, rfl⟩
  exact ⟨_, _, rfl, rfl, by omega, by omega, by show _ = _; omega⟩

theorem before_yes (r q r' q' : Int) (w : World) (h0 : 0 ≤ r) (h1 : r < 1000000000) (h2 : 0 ≤ r') (h3 : r' < 1000000000) (h : q * 1000000000 + r < q' * 1000000000 + r') :
    Calls Yba.prog 17 #[timeV r q, timeV r' q'] w fun e w' => e = .returned (.bool true) ∧ w' = (w.alloc (.cells (timeC r q) 29)).alloc (.cells (timeC r' q') 29) := by
  refine (before_any r q r' q' w h0 h1 h2 h3).mono ?_
  rintro e w' ⟨rfl, rfl⟩
  have : (decide (q < q') || (q == q' && decide (r < r'))) = true := by
    by_cases c : q < q'
    · simp [c]
    · have e : q = q' := by omega
      subst e
      simp; omega
  rw [this]; exact ⟨rfl, rfl⟩

theorem before_no (r q r' q' : Int) (w : World) (h0 : 0 ≤ r) (h1 : r < 1000000000) (h2 : 0 ≤ r') (h3 : r' < 1000000000) (h : q' * 1000000000 + r' ≤ q * 1000000000 + r) :
    Calls Yba.prog 17 #[timeV r q, timeV r' q'] w fun e w' => e = .returned (.bool false) ∧ w' = (w.alloc (.cells (timeC r q) 29)).alloc (.cells (timeC r' q') 29) := by
  refine (before_any r q r' q' w h0 h1 h2 h3).mono ?_
  rintro e w' ⟨rfl, rfl⟩
  have : (decide (q < q') || (q == q' && decide (r < r'))) = false := by
    have a1 : ¬ q < q' := by omega
    by_cases c : q = q'
    · subst c
      simp; omega
    · simp [a1, c]
  rw [this]; exact ⟨rfl, rfl⟩

theorem equal_x (r q r' q' : Int) (w : World) (h0 : 0 ≤ r) (h1 : r < 1000000000) (h2 : 0 ≤ r') (h3 : r' < 1000000000) (h : q * 1000000000 + r = q' * 1000000000 + r') :
    Calls Yba.prog 8 #[timeV r q, timeV r' q'] w fun e w' => e = .returned (.bool true) ∧ w' = (w.alloc (.cells (timeC r q) 29)).alloc (.cells (timeC r' q') 29) := by
  refine (equal_any r q r' q' w h0 h1 h2 h3).mono ?_
  rintro e w' ⟨rfl, rfl⟩
  have a1 : q = q' := by omega
  have a2 : r = r' := by omega
  subst a1 a2
  simp

set_option maxHeartbeats 800000 in
theorem after_first_11 (bb : Nat) (F L M r1 q1 r2 q2 : Int) (w : World)
    (h1 : 0 ≤ r1) (h2 : r1 < 1000000000) (h3 : 0 ≤ r2) (h4 : r2 < 1000000000)
    (b1 : -10000 ≤ q1) (b2 : q1 ≤ 10000) (b3 : -10000 ≤ q2) (b4 : q2 ≤ 10000)
    (f1 : -1100000000000 ≤ F) (f2 : F ≤ 1100000000000) (m1 : -1100000000000 ≤ M) (m2 : M ≤ 1100000000000)
    (c0 : w.cell? ⟨bb, 0, none⟩ = some (.int .i64 F)) (c1 : w.cell? ⟨bb, 1, none⟩ = some (.int .i64 L)) (c2 : w.cell? ⟨bb, 2, none⟩ = some (.int .i64 M)) (c3 : w.cell? ⟨bb, 3, none⟩ = some (.int .i64 0))
    (hf : w.frozen? ⟨bb, 3, none⟩ = false) (hb : bb < w.heap.size) (hL : L < 2 * F) (hx : q2 * 1000000000 + r2 + F < q1 * 1000000000 + r1 + M) :
    Calls Yba.prog 7 #[.pointer (some ⟨bb, 0, none⟩), timeV r1 q1, timeV r2 q2] w fun e w' => ∃ r' q' : Int, e = .returned (timeV r' q') ∧ 0 ≤ r' ∧ r' < 1000000000 ∧
      Hid (q' * 1000000000 + r' = q1 * 1000000000 + r1 + M) ∧ Below w.heap.size (w.setCell ⟨bb, 3, none⟩ (.int .i64 L)) w' := by
  have hb1 : bb < w.heap.size + 1 := by omega
  have hb2 : bb < w.heap.size + 1 + 1 := by omega
  have hb3 : bb < w.heap.size + 1 + 1 + 1 := by omega
  have hb4 : bb < w.heap.size + 1 + 1 + 1 + 1 := by omega
  have hb5 : bb < w.heap.size + 1 + 1 + 1 + 1 + 1 := by omega
  have hb6 : bb < w.heap.size + 1 + 1 + 1 + 1 + 1 + 1 := by omega
  have hb7 : bb < w.heap.size + 1 + 1 + 1 + 1 + 1 + 1 + 1 := by omega
  have hb8 : bb < w.heap.size + 1 + 1 + 1 + 1 + 1 + 1 + 1 + 1 := by omega
  have hb9 : bb < w.heap.size + 1 + 1 + 1 + 1 + 1 + 1 + 1 + 1 + 1 := by omega
  have hb10 : bb < w.heap.size + 1 + 1 + 1 + 1 + 1 + 1 + 1 + 1 + 1 + 1 := by omega
  have HX : Hid (q2 * 1000000000 + r2 + F < q1 * 1000000000 + r1 + M) := hx
  clear hx
  go_enter Yba.func7, Yba.ntmps7
  go_wp2_with (first | (go_at_call 6; refine (add_x _ _ _ _ (by omega) (by omega) (by omega) (by omega) (by omega) (by omega)).mono ?_; rintro e w' ⟨r3, q3, rfl, rfl, h5, h6, H3⟩))
  go_region_held3 (fun w' => w'.cell? ⟨bb, 2, none⟩ = some (.int .i64 M) ∧ w'.cell? ⟨w.heap.size, 0, none⟩ = some (.int .u64 r1) ∧ w'.cell? ⟨w.heap.size, 1, none⟩ = some (.int .i64 q1) ∧ w'.cell? ⟨w.heap.size, 2, none⟩ = some (.pointer none)) (go_simp)
    ((go_at_call 6; refine (add_x _ _ _ _ (by omega) (by omega) (by omega) (by omega) (by omega) (by omega)).mono ?_; rintro e w' ⟨r4, q4, rfl, rfl, h7, h8, H4⟩))
  all_goals
    go_wp2_with (first | (go_at_call 17; refine (before_yes _ _ _ _ _ (by omega) (by omega) (by omega) (by omega) (by have := H3.out; have := H4.out; have := HX.out; omega)).mono ?_; rintro e w' ⟨rfl, rfl⟩))
    refine bodyPost_ret (v := timeV r4 q4) (by simp [results, Yba.results7, go_sem]) rfl ⟨r4, q4, rfl, h7, h8, H4, ?_⟩
    repeat (first | exact Below.refl _ _ | apply Below.drew | refine Below.alloc ?_ (by simp <;> omega) _)

set_option maxHeartbeats 800000 in
theorem after_first_10 (bb : Nat) (F L M r1 q1 r2 q2 : Int) (w : World)
    (h1 : 0 ≤ r1) (h2 : r1 < 1000000000) (h3 : 0 ≤ r2) (h4 : r2 < 1000000000)
    (b1 : -10000 ≤ q1) (b2 : q1 ≤ 10000) (b3 : -10000 ≤ q2) (b4 : q2 ≤ 10000)
    (f1 : -1100000000000 ≤ F) (f2 : F ≤ 1100000000000) (m1 : -1100000000000 ≤ M) (m2 : M ≤ 1100000000000)
    (c0 : w.cell? ⟨bb, 0, none⟩ = some (.int .i64 F)) (c1 : w.cell? ⟨bb, 1, none⟩ = some (.int .i64 L)) (c2 : w.cell? ⟨bb, 2, none⟩ = some (.int .i64 M)) (c3 : w.cell? ⟨bb, 3, none⟩ = some (.int .i64 0))
    (hf : w.frozen? ⟨bb, 3, none⟩ = false) (hb : bb < w.heap.size) (hL : L < 2 * F) (hx : q1 * 1000000000 + r1 + M ≤ q2 * 1000000000 + r2 + F) :
    Calls Yba.prog 7 #[.pointer (some ⟨bb, 0, none⟩), timeV r1 q1, timeV r2 q2] w fun e w' => ∃ r' q' : Int, e = .returned (timeV r' q') ∧ 0 ≤ r' ∧ r' < 1000000000 ∧
      Hid (q' * 1000000000 + r' = q2 * 1000000000 + r2 + F) ∧ Below w.heap.size (w.setCell ⟨bb, 3, none⟩ (.int .i64 L)) w' := by
  have hb1 : bb < w.heap.size + 1 := by omega
  have hb2 : bb < w.heap.size + 1 + 1 := by omega
  have hb3 : bb < w.heap.size + 1 + 1 + 1 := by omega
  have hb4 : bb < w.heap.size + 1 + 1 + 1 + 1 := by omega
  have hb5 : bb < w.heap.size + 1 + 1 + 1 + 1 + 1 := by omega
  have hb6 : bb < w.heap.size + 1 + 1 + 1 + 1 + 1 + 1 := by omega
  have hb7 : bb < w.heap.size + 1 + 1 + 1 + 1 + 1 + 1 + 1 := by omega
  have hb8 : bb < w.heap.size + 1 + 1 + 1 + 1 + 1 + 1 + 1 + 1 := by omega
  have hb9 : bb < w.heap.size + 1 + 1 + 1 + 1 + 1 + 1 + 1 + 1 + 1 := by omega
  have hb10 : bb < w.heap.size + 1 + 1 + 1 + 1 + 1 + 1 + 1 + 1 + 1 + 1 := by omega
  have HX : Hid (q1 * 1000000000 + r1 + M ≤ q2 * 1000000000 + r2 + F) := hx
  clear hx
  go_enter Yba.func7, Yba.ntmps7
  go_wp2_with (first | (go_at_call 6; refine (add_x _ _ _ _ (by omega) (by omega) (by omega) (by omega) (by omega) (by omega)).mono ?_; rintro e w' ⟨r3, q3, rfl, rfl, h5, h6, H3⟩))
  go_region_held3 (fun w' => w'.cell? ⟨bb, 2, none⟩ = some (.int .i64 M) ∧ w'.cell? ⟨w.heap.size, 0, none⟩ = some (.int .u64 r1) ∧ w'.cell? ⟨w.heap.size, 1, none⟩ = some (.int .i64 q1) ∧ w'.cell? ⟨w.heap.size, 2, none⟩ = some (.pointer none)) (go_simp)
    ((go_at_call 6; refine (add_x _ _ _ _ (by omega) (by omega) (by omega) (by omega) (by omega) (by omega)).mono ?_; rintro e w' ⟨r4, q4, rfl, rfl, h7, h8, H4⟩))
  all_goals
    go_wp2_with (first | (go_at_call 17; refine (before_no _ _ _ _ _ (by omega) (by omega) (by omega) (by omega) (by have := H3.out; have := H4.out; have := HX.out; omega)).mono ?_; rintro e w' ⟨rfl, rfl⟩))
    refine bodyPost_ret (v := timeV r3 q3) (by simp [results, Yba.results7, go_sem]) rfl ⟨r3, q3, rfl, h5, h6, H3, ?_⟩
    repeat (first | exact Below.refl _ _ | apply Below.drew | refine Below.alloc ?_ (by simp <;> omega) _)

set_option maxHeartbeats 800000 in
theorem after_first_01 (bb : Nat) (F L M r1 q1 r2 q2 : Int) (w : World)
    (h1 : 0 ≤ r1) (h2 : r1 < 1000000000) (h3 : 0 ≤ r2) (h4 : r2 < 1000000000)
    (b1 : -10000 ≤ q1) (b2 : q1 ≤ 10000) (b3 : -10000 ≤ q2) (b4 : q2 ≤ 10000)
    (f1 : -1100000000000 ≤ F) (f2 : F ≤ 1100000000000) (m1 : -1100000000000 ≤ M) (m2 : M ≤ 1100000000000)
    (c0 : w.cell? ⟨bb, 0, none⟩ = some (.int .i64 F)) (c1 : w.cell? ⟨bb, 1, none⟩ = some (.int .i64 L)) (c2 : w.cell? ⟨bb, 2, none⟩ = some (.int .i64 M)) (c3 : w.cell? ⟨bb, 3, none⟩ = some (.int .i64 0))
    (hf : w.frozen? ⟨bb, 3, none⟩ = false) (hb : bb < w.heap.size) (hL : 2 * F ≤ L) (hx : q2 * 1000000000 + r2 + F < q1 * 1000000000 + r1 + M) :
    Calls Yba.prog 7 #[.pointer (some ⟨bb, 0, none⟩), timeV r1 q1, timeV r2 q2] w fun e w' => ∃ r' q' : Int, e = .returned (timeV r' q') ∧ 0 ≤ r' ∧ r' < 1000000000 ∧
      Hid (q' * 1000000000 + r' = q1 * 1000000000 + r1 + M) ∧ Below w.heap.size (w.setCell ⟨bb, 3, none⟩ (.int .i64 (2 * F))) w' := by
  have hb1 : bb < w.heap.size + 1 := by omega
  have hb2 : bb < w.heap.size + 1 + 1 := by omega
  have hb3 : bb < w.heap.size + 1 + 1 + 1 := by omega
  have hb4 : bb < w.heap.size + 1 + 1 + 1 + 1 := by omega
  have hb5 : bb < w.heap.size + 1 + 1 + 1 + 1 + 1 := by omega
  have hb6 : bb < w.heap.size + 1 + 1 + 1 + 1 + 1 + 1 := by omega
  have hb7 : bb < w.heap.size + 1 + 1 + 1 + 1 + 1 + 1 + 1 := by omega
  have hb8 : bb < w.heap.size + 1 + 1 + 1 + 1 + 1 + 1 + 1 + 1 := by omega
  have hb9 : bb < w.heap.size + 1 + 1 + 1 + 1 + 1 + 1 + 1 + 1 + 1 := by omega
  have hb10 : bb < w.heap.size + 1 + 1 + 1 + 1 + 1 + 1 + 1 + 1 + 1 + 1 := by omega
  have HX : Hid (q2 * 1000000000 + r2 + F < q1 * 1000000000 + r1 + M) := hx
  clear hx
  go_enter Yba.func7, Yba.ntmps7
  go_wp2_with (first | (go_at_call 6; refine (add_x _ _ _ _ (by omega) (by omega) (by omega) (by omega) (by omega) (by omega)).mono ?_; rintro e w' ⟨r3, q3, rfl, rfl, h5, h6, H3⟩))
  go_region_held3 (fun w' => w'.cell? ⟨bb, 2, none⟩ = some (.int .i64 M) ∧ w'.cell? ⟨w.heap.size, 0, none⟩ = some (.int .u64 r1) ∧ w'.cell? ⟨w.heap.size, 1, none⟩ = some (.int .i64 q1) ∧ w'.cell? ⟨w.heap.size, 2, none⟩ = some (.pointer none)) (go_simp)
    ((go_at_call 6; refine (add_x _ _ _ _ (by omega) (by omega) (by omega) (by omega) (by omega) (by omega)).mono ?_; rintro e w' ⟨r4, q4, rfl, rfl, h7, h8, H4⟩))
  all_goals
    go_wp2_with (first | (go_at_call 17; refine (before_yes _ _ _ _ _ (by omega) (by omega) (by omega) (by omega) (by have := H3.out; have := H4.out; have := HX.out; omega)).mono ?_; rintro e w' ⟨rfl, rfl⟩))
    refine bodyPost_ret (v := timeV r4 q4) (by simp [results, Yba.results7, go_sem]) rfl ⟨r4, q4, rfl, h7, h8, H4, ?_⟩
    repeat (first | exact Below.refl _ _ | apply Below.drew | refine Below.alloc ?_ (by simp <;> omega) _)

set_option maxHeartbeats 800000 in
theorem after_first_00 (bb : Nat) (F L M r1 q1 r2 q2 : Int) (w : World)
    (h1 : 0 ≤ r1) (h2 : r1 < 1000000000) (h3 : 0 ≤ r2) (h4 : r2 < 1000000000)
    (b1 : -10000 ≤ q1) (b2 : q1 ≤ 10000) (b3 : -10000 ≤ q2) (b4 : q2 ≤ 10000)
    (f1 : -1100000000000 ≤ F) (f2 : F ≤ 1100000000000) (m1 : -1100000000000 ≤ M) (m2 : M ≤ 1100000000000)
    (c0 : w.cell? ⟨bb, 0, none⟩ = some (.int .i64 F)) (c1 : w.cell? ⟨bb, 1, none⟩ = some (.int .i64 L)) (c2 : w.cell? ⟨bb, 2, none⟩ = some (.int .i64 M)) (c3 : w.cell? ⟨bb, 3, none⟩ = some (.int .i64 0))
    (hf : w.frozen? ⟨bb, 3, none⟩ = false) (hb : bb < w.heap.size) (hL : 2 * F ≤ L) (hx : q1 * 1000000000 + r1 + M ≤ q2 * 1000000000 + r2 + F) :
    Calls Yba.prog 7 #[.pointer (some ⟨bb, 0, none⟩), timeV r1 q1, timeV r2 q2] w fun e w' => ∃ r' q' : Int, e = .returned (timeV r' q') ∧ 0 ≤ r' ∧ r' < 1000000000 ∧
      Hid (q' * 1000000000 + r' = q2 * 1000000000 + r2 + F) ∧ Below w.heap.size (w.setCell ⟨bb, 3, none⟩ (.int .i64 (2 * F))) w' := by
  have hb1 : bb < w.heap.size + 1 := by omega
  have hb2 : bb < w.heap.size + 1 + 1 := by omega
  have hb3 : bb < w.heap.size + 1 + 1 + 1 := by omega
  have hb4 : bb < w.heap.size + 1 + 1 + 1 + 1 := by omega
  have hb5 : bb < w.heap.size + 1 + 1 + 1 + 1 + 1 := by omega
  have hb6 : bb < w.heap.size + 1 + 1 + 1 + 1 + 1 + 1 := by omega
  have hb7 : bb < w.heap.size + 1 + 1 + 1 + 1 + 1 + 1 + 1 := by omega
  have hb8 : bb < w.heap.size + 1 + 1 + 1 + 1 + 1 + 1 + 1 + 1 := by omega
  have hb9 : bb < w.heap.size + 1 + 1 + 1 + 1 + 1 + 1 + 1 + 1 + 1 := by omega
  have hb10 : bb < w.heap.size + 1 + 1 + 1 + 1 + 1 + 1 + 1 + 1 + 1 + 1 := by omega
  have HX : Hid (q1 * 1000000000 + r1 + M ≤ q2 * 1000000000 + r2 + F) := hx
  clear hx
  go_enter Yba.func7, Yba.ntmps7
  go_wp2_with (first | (go_at_call 6; refine (add_x _ _ _ _ (by omega) (by omega) (by omega) (by omega) (by omega) (by omega)).mono ?_; rintro e w' ⟨r3, q3, rfl, rfl, h5, h6, H3⟩))
  go_region_held3 (fun w' => w'.cell? ⟨bb, 2, none⟩ = some (.int .i64 M) ∧ w'.cell? ⟨w.heap.size, 0, none⟩ = some (.int .u64 r1) ∧ w'.cell? ⟨w.heap.size, 1, none⟩ = some (.int .i64 q1) ∧ w'.cell? ⟨w.heap.size, 2, none⟩ = some (.pointer none)) (go_simp)
    ((go_at_call 6; refine (add_x _ _ _ _ (by omega) (by omega) (by omega) (by omega) (by omega) (by omega)).mono ?_; rintro e w' ⟨r4, q4, rfl, rfl, h7, h8, H4⟩))
  all_goals
    go_wp2_with (first | (go_at_call 17; refine (before_no _ _ _ _ _ (by omega) (by omega) (by omega) (by omega) (by have := H3.out; have := H4.out; have := HX.out; omega)).mono ?_; rintro e w' ⟨rfl, rfl⟩))
    refine bodyPost_ret (v := timeV r3 q3) (by simp [results, Yba.results7, go_sem]) rfl ⟨r3, q3, rfl, h5, h6, H3, ?_⟩
    repeat (first | exact Below.refl _ _ | apply Below.drew | refine Below.alloc ?_ (by simp <;> omega) _)

theorem after_first (bb : Nat) (F L M r1 q1 r2 q2 : Int) (w : World)
    (h1 : 0 ≤ r1) (h2 : r1 < 1000000000) (h3 : 0 ≤ r2) (h4 : r2 < 1000000000)
    (b1 : -10000 ≤ q1) (b2 : q1 ≤ 10000) (b3 : -10000 ≤ q2) (b4 : q2 ≤ 10000)
    (f1 : -1100000000000 ≤ F) (f2 : F ≤ 1100000000000) (m1 : -1100000000000 ≤ M) (m2 : M ≤ 1100000000000)
    (c0 : w.cell? ⟨bb, 0, none⟩ = some (.int .i64 F)) (c1 : w.cell? ⟨bb, 1, none⟩ = some (.int .i64 L)) (c2 : w.cell? ⟨bb, 2, none⟩ = some (.int .i64 M)) (c3 : w.cell? ⟨bb, 3, none⟩ = some (.int .i64 0))
    (hf : w.frozen? ⟨bb, 3, none⟩ = false) (hb : bb < w.heap.size) :
    Calls Yba.prog 7 #[.pointer (some ⟨bb, 0, none⟩), timeV r1 q1, timeV r2 q2] w fun e w' => ∃ r' q' : Int, e = .returned (timeV r' q') ∧ 0 ≤ r' ∧ r' < 1000000000 ∧
      Hid (q' * 1000000000 + r' = if q2 * 1000000000 + r2 + F < q1 * 1000000000 + r1 + M then q1 * 1000000000 + r1 + M else q2 * 1000000000 + r2 + F) ∧
      Below w.heap.size (w.setCell ⟨bb, 3, none⟩ (.int .i64 (if L < 2 * F then L else 2 * F))) w' := by
  by_cases hL : L < 2 * F <;> by_cases hx : q2 * 1000000000 + r2 + F < q1 * 1000000000 + r1 + M
  · rw [if_pos hx, if_pos hL]; exact after_first_11 bb F L M r1 q1 r2 q2 w h1 h2 h3 h4 b1 b2 b3 b4 f1 f2 m1 m2 c0 c1 c2 c3 hf hb hL hx
  · rw [if_neg hx, if_pos hL]; exact after_first_10 bb F L M r1 q1 r2 q2 w h1 h2 h3 h4 b1 b2 b3 b4 f1 f2 m1 m2 c0 c1 c2 c3 hf hb hL (Int.not_lt.mp hx)
  · rw [if_pos hx, if_neg hL]; exact after_first_01 bb F L M r1 q1 r2 q2 w h1 h2 h3 h4 b1 b2 b3 b4 f1 f2 m1 m2 c0 c1 c2 c3 hf hb (Int.not_lt.mp hL) hx
  · rw [if_neg hx, if_neg hL]; exact after_first_00 bb F L M r1 q1 r2 q2 w h1 h2 h3 h4 b1 b2 b3 b4 f1 f2 m1 m2 c0 c1 c2 c3 hf hb (Int.not_lt.mp hL) (Int.not_lt.mp hx)


set_option maxHeartbeats 800000 in
theorem after_later_11 (bb : Nat) (F L M W r1 q1 r2 q2 : Int) (w : World)
    (h1 : 0 ≤ r1) (h2 : r1 < 1000000000) (h3 : 0 ≤ r2) (h4 : r2 < 1000000000)
    (b1 : -10000 ≤ q1) (b2 : q1 ≤ 10000) (b3 : -10000 ≤ q2) (b4 : q2 ≤ 10000)
    (f1 : -1100000000000 ≤ W) (f2 : W ≤ 1100000000000) (m1 : -1100000000000 ≤ M) (m2 : M ≤ 1100000000000) (w0 : (W == 0) = false)
    (c0 : w.cell? ⟨bb, 0, none⟩ = some (.int .i64 F)) (c1 : w.cell? ⟨bb, 1, none⟩ = some (.int .i64 L)) (c2 : w.cell? ⟨bb, 2, none⟩ = some (.int .i64 M)) (c3 : w.cell? ⟨bb, 3, none⟩ = some (.int .i64 W))
    (hf : w.frozen? ⟨bb, 3, none⟩ = false) (hb : bb < w.heap.size) (hL : L < 2 * W) (hx : q2 * 1000000000 + r2 + W < q1 * 1000000000 + r1 + M) :
    Calls Yba.prog 7 #[.pointer (some ⟨bb, 0, none⟩), timeV r1 q1, timeV r2 q2] w fun e w' => ∃ r' q' : Int, e = .returned (timeV r' q') ∧ 0 ≤ r' ∧ r' < 1000000000 ∧
      Hid (q' * 1000000000 + r' = q1 * 1000000000 + r1 + M) ∧ Below w.heap.size (w.setCell ⟨bb, 3, none⟩ (.int .i64 L)) w' := by
  have hb1 : bb < w.heap.size + 1 := by omega
  have hb2 : bb < w.heap.size + 1 + 1 := by omega
  have hb3 : bb < w.heap.size + 1 + 1 + 1 := by omega
  have hb4 : bb < w.heap.size + 1 + 1 + 1 + 1 := by omega
  have hb5 : bb < w.heap.size + 1 + 1 + 1 + 1 + 1 := by omega
  have hb6 : bb < w.heap.size + 1 + 1 + 1 + 1 + 1 + 1 := by omega
  have hb7 : bb < w.heap.size + 1 + 1 + 1 + 1 + 1 + 1 + 1 := by omega
  have hb8 : bb < w.heap.size + 1 + 1 + 1 + 1 + 1 + 1 + 1 + 1 := by omega
  have hb9 : bb < w.heap.size + 1 + 1 + 1 + 1 + 1 + 1 + 1 + 1 + 1 := by omega
  have hb10 : bb < w.heap.size + 1 + 1 + 1 + 1 + 1 + 1 + 1 + 1 + 1 + 1 := by omega
  have HX : Hid (q2 * 1000000000 + r2 + W < q1 * 1000000000 + r1 + M) := hx
  clear hx
  go_enter Yba.func7, Yba.ntmps7
  go_wp2_with (first | (go_at_call 6; refine (add_x _ _ _ _ (by omega) (by omega) (by omega) (by omega) (by omega) (by omega)).mono ?_; rintro e w' ⟨r3, q3, rfl, rfl, h5, h6, H3⟩))
  go_region_held3 (fun w' => w'.cell? ⟨bb, 2, none⟩ = some (.int .i64 M) ∧ w'.cell? ⟨w.heap.size, 0, none⟩ = some (.int .u64 r1) ∧ w'.cell? ⟨w.heap.size, 1, none⟩ = some (.int .i64 q1) ∧ w'.cell? ⟨w.heap.size, 2, none⟩ = some (.pointer none)) (go_simp)
    ((go_at_call 6; refine (add_x _ _ _ _ (by omega) (by omega) (by omega) (by omega) (by omega) (by omega)).mono ?_; rintro e w' ⟨r4, q4, rfl, rfl, h7, h8, H4⟩))
  all_goals
    go_wp2_with (first | (go_at_call 17; refine (before_yes _ _ _ _ _ (by omega) (by omega) (by omega) (by omega) (by have := H3.out; have := H4.out; have := HX.out; omega)).mono ?_; rintro e w' ⟨rfl, rfl⟩))
    refine bodyPost_ret (v := timeV r4 q4) (by simp [results, Yba.results7, go_sem]) rfl ⟨r4, q4, rfl, h7, h8, H4, ?_⟩
    repeat (first | exact Below.refl _ _ | apply Below.drew | refine Below.alloc ?_ (by simp <;> omega) _)

set_option maxHeartbeats 800000 in
theorem after_later_10 (bb : Nat) (F L M W r1 q1 r2 q2 : Int) (w : World)
    (h1 : 0 ≤ r1) (h2 : r1 < 1000000000) (h3 : 0 ≤ r2) (h4 : r2 < 1000000000)
    (b1 : -10000 ≤ q1) (b2 : q1 ≤ 10000) (b3 : -10000 ≤ q2) (b4 : q2 ≤ 10000)
    (f1 : -1100000000000 ≤ W) (f2 : W ≤ 1100000000000) (m1 : -1100000000000 ≤ M) (m2 : M ≤ 1100000000000) (w0 : (W == 0) = false)
    (c0 : w.cell? ⟨bb, 0, none⟩ = some (.int .i64 F)) (c1 : w.cell? ⟨bb, 1, none⟩ = some (.int .i64 L)) (c2 : w.cell? ⟨bb, 2, none⟩ = some (.int .i64 M)) (c3 : w.cell? ⟨bb, 3, none⟩ = some (.int .i64 W))
    (hf : w.frozen? ⟨bb, 3, none⟩ = false) (hb : bb < w.heap.size) (hL : L < 2 * W) (hx : q1 * 1000000000 + r1 + M ≤ q2 * 1000000000 + r2 + W) :
    Calls Yba.prog 7 #[.pointer (some ⟨bb, 0, none⟩), timeV r1 q1, timeV r2 q2] w fun e w' => ∃ r' q' : Int, e = .returned (timeV r' q') ∧ 0 ≤ r' ∧ r' < 1000000000 ∧
      Hid (q' * 1000000000 + r' = q2 * 1000000000 + r2 + W) ∧ Below w.heap.size (w.setCell ⟨bb, 3, none⟩ (.int .i64 L)) w' := by
  have hb1 : bb < w.heap.size + 1 := by omega
  have hb2 : bb < w.heap.size + 1 + 1 := by omega
  have hb3 : bb < w.heap.size + 1 + 1 + 1 := by omega
  have hb4 : bb < w.heap.size + 1 + 1 + 1 + 1 := by omega
  have hb5 : bb < w.heap.size + 1 + 1 + 1 + 1 + 1 := by omega
  have hb6 : bb < w.heap.size + 1 + 1 + 1 + 1 + 1 + 1 := by omega
  have hb7 : bb < w.heap.size + 1 + 1 + 1 + 1 + 1 + 1 + 1 := by omega
  have hb8 : bb < w.heap.size + 1 + 1 + 1 + 1 + 1 + 1 + 1 + 1 := by omega
  have hb9 : bb < w.heap.size + 1 + 1 + 1 + 1 + 1 + 1 + 1 + 1 + 1 := by omega
  have hb10 : bb < w.heap.size + 1 + 1 + 1 + 1 + 1 + 1 + 1 + 1 + 1 + 1 := by omega
  have HX : Hid (q1 * 1000000000 + r1 + M ≤ q2 * 1000000000 + r2 + W) := hx
  clear hx
  go_enter Yba.func7, Yba.ntmps7
  go_wp2_with (first | (go_at_call 6; refine (add_x _ _ _ _ (by omega) (by omega) (by omega) (by omega) (by omega) (by omega)).mono ?_; rintro e w' ⟨r3, q3, rfl, rfl, h5, h6, H3⟩))
  go_region_held3 (fun w' => w'.cell? ⟨bb, 2, none⟩ = some (.int .i64 M) ∧ w'.cell? ⟨w.heap.size, 0, none⟩ = some (.int .u64 r1) ∧ w'.cell? ⟨w.heap.size, 1, none⟩ = some (.int .i64 q1) ∧ w'.cell? ⟨w.heap.size, 2, none⟩ = some (.pointer none)) (go_simp)
    ((go_at_call 6; refine (add_x _ _ _ _ (by omega) (by omega) (by omega) (by omega) (by omega) (by omega)).mono ?_; rintro e w' ⟨r4, q4, rfl, rfl, h7, h8, H4⟩))
  all_goals
    go_wp2_with (first | (go_at_call 17; refine (before_no _ _ _ _ _ (by omega) (by omega) (by omega) (by omega) (by have := H3.out; have := H4.out; have := HX.out; omega)).mono ?_; rintro e w' ⟨rfl, rfl⟩))
    refine bodyPost_ret (v := timeV r3 q3) (by simp [results, Yba.results7, go_sem]) rfl ⟨r3, q3, rfl, h5, h6, H3, ?_⟩
    repeat (first | exact Below.refl _ _ | apply Below.drew | refine Below.alloc ?_ (by simp <;> omega) _)

set_option maxHeartbeats 800000 in
theorem after_later_01 (bb : Nat) (F L M W r1 q1 r2 q2 : Int) (w : World)
    (h1 : 0 ≤ r1) (h2 : r1 < 1000000000) (h3 : 0 ≤ r2) (h4 : r2 < 1000000000)
    (b1 : -10000 ≤ q1) (b2 : q1 ≤ 10000) (b3 : -10000 ≤ q2) (b4 : q2 ≤ 10000)
    (f1 : -1100000000000 ≤ W) (f2 : W ≤ 1100000000000) (m1 : -1100000000000 ≤ M) (m2 : M ≤ 1100000000000) (w0 : (W == 0) = false)
    (c0 : w.cell? ⟨bb, 0, none⟩ = some (.int .i64 F)) (c1 : w.cell? ⟨bb, 1, none⟩ = some (.int .i64 L)) (c2 : w.cell? ⟨bb, 2, none⟩ = some (.int .i64 M)) (c3 : w.cell? ⟨bb, 3, none⟩ = some (.int .i64 W))
    (hf : w.frozen? ⟨bb, 3, none⟩ = false) (hb : bb < w.heap.size) (hL : 2 * W ≤ L) (hx : q2 * 1000000000 + r2 + W < q1 * 1000000000 + r1 + M) :
    Calls Yba.prog 7 #[.pointer (some ⟨bb, 0, none⟩), timeV r1 q1, timeV r2 q2] w fun e w' => ∃ r' q' : Int, e = .returned (timeV r' q') ∧ 0 ≤ r' ∧ r' < 1000000000 ∧
      Hid (q' * 1000000000 + r' = q1 * 1000000000 + r1 + M) ∧ Below w.heap.size (w.setCell ⟨bb, 3, none⟩ (.int .i64 (2 * W))) w' := by
  have hb1 : bb < w.heap.size + 1 := by omega
  have hb2 : bb < w.heap.size + 1 + 1 := by omega
  have hb3 : bb < w.heap.size + 1 + 1 + 1 := by omega
  have hb4 : bb < w.heap.size + 1 + 1 + 1 + 1 := by omega
  have hb5 : bb < w.heap.size + 1 + 1 + 1 + 1 + 1 := by omega
  have hb6 : bb < w.heap.size + 1 + 1 + 1 + 1 + 1 + 1 := by omega
  have hb7 : bb < w.heap.size + 1 + 1 + 1 + 1 + 1 + 1 + 1 := by omega
  have hb8 : bb < w.heap.size + 1 + 1 + 1 + 1 + 1 + 1 + 1 + 1 := by omega
  have hb9 : bb < w.heap.size + 1 + 1 + 1 + 1 + 1 + 1 + 1 + 1 + 1 := by omega
  have hb10 : bb < w.heap.size + 1 + 1 + 1 + 1 + 1 + 1 + 1 + 1 + 1 + 1 := by omega
  have HX : Hid (q2 * 1000000000 + r2 + W < q1 * 1000000000 + r1 + M) := hx
  clear hx
  go_enter Yba.func7, Yba.ntmps7
  go_wp2_with (first | (go_at_call 6; refine (add_x _ _ _ _ (by omega) (by omega) (by omega) (by omega) (by omega) (by omega)).mono ?_; rintro e w' ⟨r3, q3, rfl, rfl, h5, h6, H3⟩))
  go_region_held3 (fun w' => w'.cell? ⟨bb, 2, none⟩ = some (.int .i64 M) ∧ w'.cell? ⟨w.heap.size, 0, none⟩ = some (.int .u64 r1) ∧ w'.cell? ⟨w.heap.size, 1, none⟩ = some (.int .i64 q1) ∧ w'.cell? ⟨w.heap.size, 2, none⟩ = some (.pointer none)) (go_simp)
    ((go_at_call 6; refine (add_x _ _ _ _ (by omega) (by omega) (by omega) (by omega) (by omega) (by omega)).mono ?_; rintro e w' ⟨r4, q4, rfl, rfl, h7, h8, H4⟩))
  all_goals
    go_wp2_with (first | (go_at_call 17; refine (before_yes _ _ _ _ _ (by omega) (by omega) (by omega) (by omega) (by have := H3.out; have := H4.out; have := HX.out; omega)).mono ?_; rintro e w' ⟨rfl, rfl⟩))
    refine bodyPost_ret (v := timeV r4 q4) (by simp [results, Yba.results7, go_sem]) rfl ⟨r4, q4, rfl, h7, h8, H4, ?_⟩
    repeat (first | exact Below.refl _ _ | apply Below.drew | refine Below.alloc ?_ (by simp <;> omega) _)

set_option maxHeartbeats 800000 in
theorem after_later_00 (bb : Nat) (F L M W r1 q1 r2 q2 : Int) (w : World)
    (h1 : 0 ≤ r1) (h2 : r1 < 1000000000) (h3 : 0 ≤ r2) (h4 : r2 < 1000000000)
    (b1 : -10000 ≤ q1) (b2 : q1 ≤ 10000) (b3 : -10000 ≤ q2) (b4 : q2 ≤ 10000)
    (f1 : -1100000000000 ≤ W) (f2 : W ≤ 1100000000000) (m1 : -1100000000000 ≤ M) (m2 : M ≤ 1100000000000) (w0 : (W == 0) = false)
    (c0 : w.cell? ⟨bb, 0, none⟩ = some (.int .i64 F)) (c1 : w.cell? ⟨bb, 1, none⟩ = some (.int .i64 L)) (c2 : w.cell? ⟨bb, 2, none⟩ = some (.int .i64 M)) (c3 : w.cell? ⟨bb, 3, none⟩ = some (.int .i64 W))
    (hf : w.frozen? ⟨bb, 3, none⟩ = false) (hb : bb < w.heap.size) (hL : 2 * W ≤ L) (hx : q1 * 1000000000 + r1 + M ≤ q2 * 1000000000 + r2 + W) :
    Calls Yba.prog 7 #[.pointer (some ⟨bb, 0, none⟩), timeV r1 q1, timeV r2 q2] w fun e w' => ∃ r' q' : Int, e = .returned (timeV r' q') ∧ 0 ≤ r' ∧ r' < 1000000000 ∧
      Hid (q' * 1000000000 + r' = q2 * 1000000000 + r2 + W) ∧ Below w.heap.size (w.setCell ⟨bb, 3, none⟩ (.int .i64 (2 * W))) w' := by
  have hb1 : bb < w.heap.size + 1 := by omega
  have hb2 : bb < w.heap.size + 1 + 1 := by omega
  have hb3 : bb < w.heap.size + 1 + 1 + 1 := by omega
  have hb4 : bb < w.heap.size + 1 + 1 + 1 + 1 := by omega
  have hb5 : bb < w.heap.size + 1 + 1 + 1 + 1 + 1 := by omega
  have hb6 : bb < w.heap.size + 1 + 1 + 1 + 1 + 1 + 1 := by omega
  have hb7 : bb < w.heap.size + 1 + 1 + 1 + 1 + 1 + 1 + 1 := by omega
  have hb8 : bb < w.heap.size + 1 + 1 + 1 + 1 + 1 + 1 + 1 + 1 := by omega
  have hb9 : bb < w.heap.size + 1 + 1 + 1 + 1 + 1 + 1 + 1 + 1 + 1 := by omega
  have hb10 : bb < w.heap.size + 1 + 1 + 1 + 1 + 1 + 1 + 1 + 1 + 1 + 1 := by omega
  have HX : Hid (q1 * 1000000000 + r1 + M ≤ q2 * 1000000000 + r2 + W) := hx
  clear hx
  go_enter Yba.func7, Yba.ntmps7
  go_wp2_with (first | (go_at_call 6; refine (add_x _ _ _ _ (by omega) (by omega) (by omega) (by omega) (by omega) (by omega)).mono ?_; rintro e w' ⟨r3, q3, rfl, rfl, h5, h6, H3⟩))
  go_region_held3 (fun w' => w'.cell? ⟨bb, 2, none⟩ = some (.int .i64 M) ∧ w'.cell? ⟨w.heap.size, 0, none⟩ = some (.int .u64 r1) ∧ w'.cell? ⟨w.heap.size, 1, none⟩ = some (.int .i64 q1) ∧ w'.cell? ⟨w.heap.size, 2, none⟩ = some (.pointer none)) (go_simp)
    ((go_at_call 6; refine (add_x _ _ _ _ (by omega) (by omega) (by omega) (by omega) (by omega) (by omega)).mono ?_; rintro e w' ⟨r4, q4, rfl, rfl, h7, h8, H4⟩))
  all_goals
    go_wp2_with (first | (go_at_call 17; refine (before_no _ _ _ _ _ (by omega) (by omega) (by omega) (by omega) (by have := H3.out; have := H4.out; have := HX.out; omega)).mono ?_; rintro e w' ⟨rfl, rfl⟩))
    refine bodyPost_ret (v := timeV r3 q3) (by simp [results, Yba.results7, go_sem]) rfl ⟨r3, q3, rfl, h5, h6, H3, ?_⟩
    repeat (first | exact Below.refl _ _ | apply Below.drew | refine Below.alloc ?_ (by simp <;> omega) _)

theorem after_later (bb : Nat) (F L M W r1 q1 r2 q2 : Int) (w : World)
    (h1 : 0 ≤ r1) (h2 : r1 < 1000000000) (h3 : 0 ≤ r2) (h4 : r2 < 1000000000)
    (b1 : -10000 ≤ q1) (b2 : q1 ≤ 10000) (b3 : -10000 ≤ q2) (b4 : q2 ≤ 10000)
    (f1 : -1100000000000 ≤ W) (f2 : W ≤ 1100000000000) (m1 : -1100000000000 ≤ M) (m2 : M ≤ 1100000000000) (w0 : (W == 0) = false)
    (c0 : w.cell? ⟨bb, 0, none⟩ = some (.int .i64 F)) (c1 : w.cell? ⟨bb, 1, none⟩ = some (.int .i64 L)) (c2 : w.cell? ⟨bb, 2, none⟩ = some (.int .i64 M)) (c3 : w.cell? ⟨bb, 3, none⟩ = some (.int .i64 W))
    (hf : w.frozen? ⟨bb, 3, none⟩ = false) (hb : bb < w.heap.size) :
    Calls Yba.prog 7 #[.pointer (some ⟨bb, 0, none⟩), timeV r1 q1, timeV r2 q2] w fun e w' => ∃ r' q' : Int, e = .returned (timeV r' q') ∧ 0 ≤ r' ∧ r' < 1000000000 ∧
      Hid (q' * 1000000000 + r' = if q2 * 1000000000 + r2 + W < q1 * 1000000000 + r1 + M then q1 * 1000000000 + r1 + M else q2 * 1000000000 + r2 + W) ∧
      Below w.heap.size (w.setCell ⟨bb, 3, none⟩ (.int .i64 (if L < 2 * W then L else 2 * W))) w' := by
  by_cases hL : L < 2 * W <;> by_cases hx : q2 * 1000000000 + r2 + W < q1 * 1000000000 + r1 + M
  · rw [if_pos hx, if_pos hL]; exact after_later_11 bb F L M W r1 q1 r2 q2 w h1 h2 h3 h4 b1 b2 b3 b4 f1 f2 m1 m2 w0 c0 c1 c2 c3 hf hb hL hx
  · rw [if_neg hx, if_pos hL]; exact after_later_10 bb F L M W r1 q1 r2 q2 w h1 h2 h3 h4 b1 b2 b3 b4 f1 f2 m1 m2 w0 c0 c1 c2 c3 hf hb hL (Int.not_lt.mp hx)
  · rw [if_pos hx, if_neg hL]; exact after_later_01 bb F L M W r1 q1 r2 q2 w h1 h2 h3 h4 b1 b2 b3 b4 f1 f2 m1 m2 w0 c0 c1 c2 c3 hf hb (Int.not_lt.mp hL) hx
  · rw [if_neg hx, if_neg hL]; exact after_later_00 bb F L M W r1 q1 r2 q2 w h1 h2 h3 h4 b1 b2 b3 b4 f1 f2 m1 m2 w0 c0 c1 c2 c3 hf hb (Int.not_lt.mp hL) (Int.not_lt.mp hx)

end Go.Proofs.Ybulkcege
