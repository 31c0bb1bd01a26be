import Derived.Test.YbulkcegeAfter
namespace Go.Proofs.Ybulkcege
open Go.RowKit
set_option linter.unusedVariables false
attribute [local go_sem ↓] Go.wp_at_zero Go.wp_at_succ

set_option maxHeartbeats 3200000 in
theorem law_111 (a0 a1 a2 a3 a4 : Int) (w : World) (l0 : -1099511627776 ≤ a0) (u0 : a0 ≤ 1099511627776) (l1 : -1099511627776 ≤ a1) (u1 : a1 ≤ 1099511627776) (l2 : -1099511627776 ≤ a2) (u2 : a2 ≤ 1099511627776) (l3 : -1099511627776 ≤ a3) (u3 : a3 ≤ 1099511627776) (l4 : -1099511627776 ≤ a4) (u4 : a4 ≤ 1099511627776) (hL : a3 < 2 * a2) (hx : a1 + a2 < a0 + a4) :
    Calls Yba.prog 3 #[.int .i64 a0, .int .i64 a1, .int .i64 a2, .int .i64 a3, .int .i64 a4, .int .i64 0] w fun e w' => e = .returned (.bool true) ∧ Below w.heap.size w w' := by
  have s1 : w.heap.size < w.heap.size + 1 := by omega
  have s2 : w.heap.size < w.heap.size + 1 + 1 := by omega
  have s3 : w.heap.size < w.heap.size + 1 + 1 + 1 := by omega
  have s4 : w.heap.size < w.heap.size + 1 + 1 + 1 + 1 := by omega
  go_enter Yba.func3, Yba.ntmps3
  go_wp2_with fail
  refine (add_x _ _ _ _ (by omega) (by omega) (by omega) (by omega) (by omega) (by omega)).mono ?_
  rintro e w' ⟨r1, q1, rfl, rfl, h1, h2, H1⟩
  go_wp2_with fail
  refine (add_x _ _ _ _ (by omega) (by omega) (by omega) (by omega) (by omega) (by omega)).mono ?_
  rintro e w' ⟨r2, q2, rfl, rfl, h3, h4, H2⟩
  go_wp2_with fail
  refine (after_first w.heap.size a2 a3 a4 r1 q1 r2 q2 _ h1 h2 h3 h4 (by have := H1.out; omega) (by have := H1.out; omega) (by have := H2.out; omega) (by have := H2.out; omega)
    (by omega) (by omega) (by omega) (by omega) (by go_simp) (by go_simp) (by go_simp) (by go_simp) (by go_simp) (by go_simp)).mono ?_
  rintro e w1 ⟨r5, q5, rfl, h5, h6, H5, hb⟩
  rw [if_pos hL] at hb
  have c0 : w1.cell? ⟨w.heap.size, 0, none⟩ = some (.int .i64 a2) := by rw [hb.cell (by simp <;> omega)]; go_simp
  have c1 : w1.cell? ⟨w.heap.size, 1, none⟩ = some (.int .i64 a3) := by rw [hb.cell (by simp <;> omega)]; go_simp
  have c2 : w1.cell? ⟨w.heap.size, 2, none⟩ = some (.int .i64 a4) := by rw [hb.cell (by simp <;> omega)]; go_simp
  have c3 : w1.cell? ⟨w.heap.size, 3, none⟩ = some (.int .i64 a3) := by rw [hb.cell (by simp <;> omega)]; go_simp
  have d0 : w1.cell? ⟨w.heap.size + 1, 0, none⟩ = some (.int .u64 0) := by rw [hb.cell (by simp <;> omega)]; go_simp
  have d1 : w1.cell? ⟨w.heap.size + 1, 1, none⟩ = some (.int .i64 0) := by rw [hb.cell (by simp <;> omega)]; go_simp
  have d2 : w1.cell? ⟨w.heap.size + 1, 2, none⟩ = some (.pointer none) := by rw [hb.cell (by simp <;> omega)]; go_simp
  have e1 : w.heap.size + 1 < w1.heap.size := by have := hb.size; simp at this; omega
  have bw : Below w.heap.size w w1 := by
    refine Below.trans ?_ (hb.mono (by simp; omega))
    refine Below.setCell ?_ (by simp) _
    repeat (first | exact Below.refl _ _ | apply Below.drew | refine Below.alloc ?_ (by first | omega | (simp <;> omega)) _)
  clear hb
  rw [if_pos (by have := H1.out; have := H2.out; omega)] at H5
  have t0 : w.heap.size < w1.heap.size := by omega
  have t1 : w.heap.size < w1.heap.size + 1 := by omega
  have t2 : w.heap.size < w1.heap.size + 1 + 1 := by omega
  have t3 : w.heap.size < w1.heap.size + 1 + 1 + 1 := by omega
  have t4 : w.heap.size < w1.heap.size + 1 + 1 + 1 + 1 := by omega
  have e2 : w.heap.size + 1 < w1.heap.size + 1 := by omega
  have e3 : w.heap.size + 1 < w1.heap.size + 1 + 1 := by omega
  have e4 : w.heap.size + 1 < w1.heap.size + 1 + 1 + 1 := by omega
  have e5 : w.heap.size + 1 < w1.heap.size + 1 + 1 + 1 + 1 := by omega
  have f1 : w1.heap.size < w1.heap.size + 1 := by omega
  have f2 : w1.heap.size < w1.heap.size + 1 + 1 := by omega
  have f3 : w1.heap.size < w1.heap.size + 1 + 1 + 1 := by omega
  have f4 : w1.heap.size < w1.heap.size + 1 + 1 + 1 + 1 := by omega
  go_wp2_with fail
  go_region_held3 (fun w' => w'.cell? ⟨w.heap.size, 0, none⟩ = some (.int .i64 a2) ∧ w'.cell? ⟨w.heap.size, 1, none⟩ = some (.int .i64 a3) ∧ w'.cell? ⟨w.heap.size, 2, none⟩ = some (.int .i64 a4) ∧ w'.cell? ⟨w.heap.size, 3, none⟩ = some (.int .i64 a3)
      ∧ w'.cell? ⟨w.heap.size + 1, 0, none⟩ = some (.int .u64 0) ∧ w'.cell? ⟨w.heap.size + 1, 1, none⟩ = some (.int .i64 0) ∧ w'.cell? ⟨w.heap.size + 1, 2, none⟩ = some (.pointer none)
      ∧ w'.cell? ⟨w1.heap.size, 0, none⟩ = some (.int .u64 r5) ∧ w'.cell? ⟨w1.heap.size, 1, none⟩ = some (.int .i64 q5) ∧ w'.cell? ⟨w1.heap.size, 2, none⟩ = some (.pointer none)) (go_simp)
    (first | (go_at_call 6; refine (add_x _ _ _ _ (by omega) (by omega) (by omega) (by omega) (by omega) (by omega)).mono ?_; rintro e w' ⟨r6, q6, rfl, rfl, h7, h8, H6⟩) | (go_at_call 8; refine (equal_x _ _ _ _ _ (by omega) (by omega) (by omega) (by omega) (by have := H1.out; have := H2.out; have := H5.out; have := H6.out; omega)).mono ?_; rintro e w' ⟨rfl, rfl⟩))
  all_goals
    go_wp2
    go_ret
    refine ⟨rfl, Below.trans bw ?_⟩
    repeat (first | exact Below.refl _ _ | apply Below.drew | refine Below.alloc ?_ (by first | omega | (simp <;> omega)) _)

set_option maxHeartbeats 3200000 in
theorem law_110 (a0 a1 a2 a3 a4 : Int) (w : World) (l0 : -1099511627776 ≤ a0) (u0 : a0 ≤ 1099511627776) (l1 : -1099511627776 ≤ a1) (u1 : a1 ≤ 1099511627776) (l2 : -1099511627776 ≤ a2) (u2 : a2 ≤ 1099511627776) (l3 : -1099511627776 ≤ a3) (u3 : a3 ≤ 1099511627776) (l4 : -1099511627776 ≤ a4) (u4 : a4 ≤ 1099511627776) (hL : a3 < 2 * a2) (hx : a0 + a4 ≤ a1 + a2) :
    Calls Yba.prog 3 #[.int .i64 a0, .int .i64 a1, .int .i64 a2, .int .i64 a3, .int .i64 a4, .int .i64 0] w fun e w' => e = .returned (.bool true) ∧ Below w.heap.size w w' := by
  have s1 : w.heap.size < w.heap.size + 1 := by omega
  have s2 : w.heap.size < w.heap.size + 1 + 1 := by omega
  have s3 : w.heap.size < w.heap.size + 1 + 1 + 1 := by omega
  have s4 : w.heap.size < w.heap.size + 1 + 1 + 1 + 1 := by omega
  go_enter Yba.func3, Yba.ntmps3
  go_wp2_with fail
  refine (add_x _ _ _ _ (by omega) (by omega) (by omega) (by omega) (by omega) (by omega)).mono ?_
  rintro e w' ⟨r1, q1, rfl, rfl, h1, h2, H1⟩
  go_wp2_with fail
  refine (add_x _ _ _ _ (by omega) (by omega) (by omega) (by omega) (by omega) (by omega)).mono ?_
  rintro e w' ⟨r2, q2, rfl, rfl, h3, h4, H2⟩
  go_wp2_with fail
  refine (after_first w.heap.size a2 a3 a4 r1 q1 r2 q2 _ h1 h2 h3 h4 (by have := H1.out; omega) (by have := H1.out; omega) (by have := H2.out; omega) (by have := H2.out; omega)
    (by omega) (by omega) (by omega) (by omega) (by go_simp) (by go_simp) (by go_simp) (by go_simp) (by go_simp) (by go_simp)).mono ?_
  rintro e w1 ⟨r5, q5, rfl, h5, h6, H5, hb⟩
  rw [if_pos hL] at hb
  have c0 : w1.cell? ⟨w.heap.size, 0, none⟩ = some (.int .i64 a2) := by rw [hb.cell (by simp <;> omega)]; go_simp
  have c1 : w1.cell? ⟨w.heap.size, 1, none⟩ = some (.int .i64 a3) := by rw [hb.cell (by simp <;> omega)]; go_simp
  have c2 : w1.cell? ⟨w.heap.size, 2, none⟩ = some (.int .i64 a4) := by rw [hb.cell (by simp <;> omega)]; go_simp
  have c3 : w1.cell? ⟨w.heap.size, 3, none⟩ = some (.int .i64 a3) := by rw [hb.cell (by simp <;> omega)]; go_simp
  have d0 : w1.cell? ⟨w.heap.size + 1, 0, none⟩ = some (.int .u64 0) := by rw [hb.cell (by simp <;> omega)]; go_simp
  have d1 : w1.cell? ⟨w.heap.size + 1, 1, none⟩ = some (.int .i64 0) := by rw [hb.cell (by simp <;> omega)]; go_simp
  have d2 : w1.cell? ⟨w.heap.size + 1, 2, none⟩ = some (.pointer none) := by rw [hb.cell (by simp <;> omega)]; go_simp
  have e1 : w.heap.size + 1 < w1.heap.size := by have := hb.size; simp at this; omega
  have bw : Below w.heap.size w w1 := by
    refine Below.trans ?_ (hb.mono (by simp; omega))
    refine Below.setCell ?_ (by simp) _
    repeat (first | exact Below.refl _ _ | apply Below.drew | refine Below.alloc ?_ (by first | omega | (simp <;> omega)) _)
  clear hb
  rw [if_neg (by have := H1.out; have := H2.out; omega)] at H5
  have t0 : w.heap.size < w1.heap.size := by omega
  have t1 : w.heap.size < w1.heap.size + 1 := by omega
  have t2 : w.heap.size < w1.heap.size + 1 + 1 := by omega
  have t3 : w.heap.size < w1.heap.size + 1 + 1 + 1 := by omega
  have t4 : w.heap.size < w1.heap.size + 1 + 1 + 1 + 1 := by omega
  have e2 : w.heap.size + 1 < w1.heap.size + 1 := by omega
  have e3 : w.heap.size + 1 < w1.heap.size + 1 + 1 := by omega
  have e4 : w.heap.size + 1 < w1.heap.size + 1 + 1 + 1 := by omega
  have e5 : w.heap.size + 1 < w1.heap.size + 1 + 1 + 1 + 1 := by omega
  have f1 : w1.heap.size < w1.heap.size + 1 := by omega
  have f2 : w1.heap.size < w1.heap.size + 1 + 1 := by omega
  have f3 : w1.heap.size < w1.heap.size + 1 + 1 + 1 := by omega
  have f4 : w1.heap.size < w1.heap.size + 1 + 1 + 1 + 1 := by omega
  go_wp2_with fail
  go_region_held3 (fun w' => w'.cell? ⟨w.heap.size, 0, none⟩ = some (.int .i64 a2) ∧ w'.cell? ⟨w.heap.size, 1, none⟩ = some (.int .i64 a3) ∧ w'.cell? ⟨w.heap.size, 2, none⟩ = some (.int .i64 a4) ∧ w'.cell? ⟨w.heap.size, 3, none⟩ = some (.int .i64 a3)
      ∧ w'.cell? ⟨w.heap.size + 1, 0, none⟩ = some (.int .u64 0) ∧ w'.cell? ⟨w.heap.size + 1, 1, none⟩ = some (.int .i64 0) ∧ w'.cell? ⟨w.heap.size + 1, 2, none⟩ = some (.pointer none)
      ∧ w'.cell? ⟨w1.heap.size, 0, none⟩ = some (.int .u64 r5) ∧ w'.cell? ⟨w1.heap.size, 1, none⟩ = some (.int .i64 q5) ∧ w'.cell? ⟨w1.heap.size, 2, none⟩ = some (.pointer none)) (go_simp)
    (first | (go_at_call 6; refine (add_x _ _ _ _ (by omega) (by omega) (by omega) (by omega) (by omega) (by omega)).mono ?_; rintro e w' ⟨r6, q6, rfl, rfl, h7, h8, H6⟩) | (go_at_call 8; refine (equal_x _ _ _ _ _ (by omega) (by omega) (by omega) (by omega) (by have := H1.out; have := H2.out; have := H5.out; have := H6.out; omega)).mono ?_; rintro e w' ⟨rfl, rfl⟩))
  all_goals
    go_wp2
    go_ret
    refine ⟨rfl, Below.trans bw ?_⟩
    repeat (first | exact Below.refl _ _ | apply Below.drew | refine Below.alloc ?_ (by first | omega | (simp <;> omega)) _)

set_option maxHeartbeats 3200000 in
theorem law_101 (a0 a1 a2 a3 a4 : Int) (w : World) (l0 : -1099511627776 ≤ a0) (u0 : a0 ≤ 1099511627776) (l1 : -1099511627776 ≤ a1) (u1 : a1 ≤ 1099511627776) (l2 : -1099511627776 ≤ a2) (u2 : a2 ≤ 1099511627776) (l3 : -1099511627776 ≤ a3) (u3 : a3 ≤ 1099511627776) (l4 : -1099511627776 ≤ a4) (u4 : a4 ≤ 1099511627776) (hL : 2 * a2 ≤ a3) (hx : a1 + a2 < a0 + a4) :
    Calls Yba.prog 3 #[.int .i64 a0, .int .i64 a1, .int .i64 a2, .int .i64 a3, .int .i64 a4, .int .i64 0] w fun e w' => e = .returned (.bool true) ∧ Below w.heap.size w w' := by
  have s1 : w.heap.size < w.heap.size + 1 := by omega
  have s2 : w.heap.size < w.heap.size + 1 + 1 := by omega
  have s3 : w.heap.size < w.heap.size + 1 + 1 + 1 := by omega
  have s4 : w.heap.size < w.heap.size + 1 + 1 + 1 + 1 := by omega
  go_enter Yba.func3, Yba.ntmps3
  go_wp2_with fail
  refine (add_x _ _ _ _ (by omega) (by omega) (by omega) (by omega) (by omega) (by omega)).mono ?_
  rintro e w' ⟨r1, q1, rfl, rfl, h1, h2, H1⟩
  go_wp2_with fail
  refine (add_x _ _ _ _ (by omega) (by omega) (by omega) (by omega) (by omega) (by omega)).mono ?_
  rintro e w' ⟨r2, q2, rfl, rfl, h3, h4, H2⟩
  go_wp2_with fail
  refine (after_first w.heap.size a2 a3 a4 r1 q1 r2 q2 _ h1 h2 h3 h4 (by have := H1.out; omega) (by have := H1.out; omega) (by have := H2.out; omega) (by have := H2.out; omega)
    (by omega) (by omega) (by omega) (by omega) (by go_simp) (by go_simp) (by go_simp) (by go_simp) (by go_simp) (by go_simp)).mono ?_
  rintro e w1 ⟨r5, q5, rfl, h5, h6, H5, hb⟩
  rw [if_neg (by omega)] at hb
  have c0 : w1.cell? ⟨w.heap.size, 0, none⟩ = some (.int .i64 a2) := by rw [hb.cell (by simp <;> omega)]; go_simp
  have c1 : w1.cell? ⟨w.heap.size, 1, none⟩ = some (.int .i64 a3) := by rw [hb.cell (by simp <;> omega)]; go_simp
  have c2 : w1.cell? ⟨w.heap.size, 2, none⟩ = some (.int .i64 a4) := by rw [hb.cell (by simp <;> omega)]; go_simp
  have c3 : w1.cell? ⟨w.heap.size, 3, none⟩ = some (.int .i64 (2 * a2)) := by rw [hb.cell (by simp <;> omega)]; go_simp
  have d0 : w1.cell? ⟨w.heap.size + 1, 0, none⟩ = some (.int .u64 0) := by rw [hb.cell (by simp <;> omega)]; go_simp
  have d1 : w1.cell? ⟨w.heap.size + 1, 1, none⟩ = some (.int .i64 0) := by rw [hb.cell (by simp <;> omega)]; go_simp
  have d2 : w1.cell? ⟨w.heap.size + 1, 2, none⟩ = some (.pointer none) := by rw [hb.cell (by simp <;> omega)]; go_simp
  have e1 : w.heap.size + 1 < w1.heap.size := by have := hb.size; simp at this; omega
  have bw : Below w.heap.size w w1 := by
    refine Below.trans ?_ (hb.mono (by simp; omega))
    refine Below.setCell ?_ (by simp) _
    repeat (first | exact Below.refl _ _ | apply Below.drew | refine Below.alloc ?_ (by first | omega | (simp <;> omega)) _)
  clear hb
  rw [if_pos (by have := H1.out; have := H2.out; omega)] at H5
  have t0 : w.heap.size < w1.heap.size := by omega
  have t1 : w.heap.size < w1.heap.size + 1 := by omega
  have t2 : w.heap.size < w1.heap.size + 1 + 1 := by omega
  have t3 : w.heap.size < w1.heap.size + 1 + 1 + 1 := by omega
  have t4 : w.heap.size < w1.heap.size + 1 + 1 + 1 + 1 := by omega
  have e2 : w.heap.size + 1 < w1.heap.size + 1 := by omega
  have e3 : w.heap.size + 1 < w1.heap.size + 1 + 1 := by omega
  have e4 : w.heap.size + 1 < w1.heap.size + 1 + 1 + 1 := by omega
  have e5 : w.heap.size + 1 < w1.heap.size + 1 + 1 + 1 + 1 := by omega
  have f1 : w1.heap.size < w1.heap.size + 1 := by omega
  have f2 : w1.heap.size < w1.heap.size + 1 + 1 := by omega
  have f3 : w1.heap.size < w1.heap.size + 1 + 1 + 1 := by omega
  have f4 : w1.heap.size < w1.heap.size + 1 + 1 + 1 + 1 := by omega
  go_wp2_with fail
  go_region_held3 (fun w' => w'.cell? ⟨w.heap.size, 0, none⟩ = some (.int .i64 a2) ∧ w'.cell? ⟨w.heap.size, 1, none⟩ = some (.int .i64 a3) ∧ w'.cell? ⟨w.heap.size, 2, none⟩ = some (.int .i64 a4) ∧ w'.cell? ⟨w.heap.size, 3, none⟩ = some (.int .i64 (2 * a2))
      ∧ w'.cell? ⟨w.heap.size + 1, 0, none⟩ = some (.int .u64 0) ∧ w'.cell? ⟨w.heap.size + 1, 1, none⟩ = some (.int .i64 0) ∧ w'.cell? ⟨w.heap.size + 1, 2, none⟩ = some (.pointer none)
      ∧ w'.cell? ⟨w1.heap.size, 0, none⟩ = some (.int .u64 r5) ∧ w'.cell? ⟨w1.heap.size, 1, none⟩ = some (.int .i64 q5) ∧ w'.cell? ⟨w1.heap.size, 2, none⟩ = some (.pointer none)) (go_simp)
    (first | (go_at_call 6; refine (add_x _ _ _ _ (by omega) (by omega) (by omega) (by omega) (by omega) (by omega)).mono ?_; rintro e w' ⟨r6, q6, rfl, rfl, h7, h8, H6⟩) | (go_at_call 8; refine (equal_x _ _ _ _ _ (by omega) (by omega) (by omega) (by omega) (by have := H1.out; have := H2.out; have := H5.out; have := H6.out; omega)).mono ?_; rintro e w' ⟨rfl, rfl⟩))
  all_goals
    go_wp2
    go_ret
    refine ⟨rfl, Below.trans bw ?_⟩
    repeat (first | exact Below.refl _ _ | apply Below.drew | refine Below.alloc ?_ (by first | omega | (simp <;> omega)) _)

set_option maxHeartbeats 3200000 in
theorem law_100 (a0 a1 a2 a3 a4 : Int) (w : World) (l0 : -1099511627776 ≤ a0) (u0 : a0 ≤ 1099511627776) (l1 : -1099511627776 ≤ a1) (u1 : a1 ≤ 1099511627776) (l2 : -1099511627776 ≤ a2) (u2 : a2 ≤ 1099511627776) (l3 : -1099511627776 ≤ a3) (u3 : a3 ≤ 1099511627776) (l4 : -1099511627776 ≤ a4) (u4 : a4 ≤ 1099511627776) (hL : 2 * a2 ≤ a3) (hx : a0 + a4 ≤ a1 + a2) :
    Calls Yba.prog 3 #[.int .i64 a0, .int .i64 a1, .int .i64 a2, .int .i64 a3, .int .i64 a4, .int .i64 0] w fun e w' => e = .returned (.bool true) ∧ Below w.heap.size w w' := by
  have s1 : w.heap.size < w.heap.size + 1 := by omega
  have s2 : w.heap.size < w.heap.size + 1 + 1 := by omega
  have s3 : w.heap.size < w.heap.size + 1 + 1 + 1 := by omega
  have s4 : w.heap.size < w.heap.size + 1 + 1 + 1 + 1 := by omega
  go_enter Yba.func3, Yba.ntmps3
  go_wp2_with fail
  refine (add_x _ _ _ _ (by omega) (by omega) (by omega) (by omega) (by omega) (by omega)).mono ?_
  rintro e w' ⟨r1, q1, rfl, rfl, h1, h2, H1⟩
  go_wp2_with fail
  refine (add_x _ _ _ _ (by omega) (by omega) (by omega) (by omega) (by omega) (by omega)).mono ?_
  rintro e w' ⟨r2, q2, rfl, rfl, h3, h4, H2⟩
  go_wp2_with fail
  refine (after_first w.heap.size a2 a3 a4 r1 q1 r2 q2 _ h1 h2 h3 h4 (by have := H1.out; omega) (by have := H1.out; omega) (by have := H2.out; omega) (by have := H2.out; omega)
    (by omega) (by omega) (by omega) (by omega) (by go_simp) (by go_simp) (by go_simp) (by go_simp) (by go_simp) (by go_simp)).mono ?_
  rintro e w1 ⟨r5, q5, rfl, h5, h6, H5, hb⟩
  rw [if_neg (by omega)] at hb
  have c0 : w1.cell? ⟨w.heap.size, 0, none⟩ = some (.int .i64 a2) := by rw [hb.cell (by simp <;> omega)]; go_simp
  have c1 : w1.cell? ⟨w.heap.size, 1, none⟩ = some (.int .i64 a3) := by rw [hb.cell (by simp <;> omega)]; go_simp
  have c2 : w1.cell? ⟨w.heap.size, 2, none⟩ = some (.int .i64 a4) := by rw [hb.cell (by simp <;> omega)]; go_simp
  have c3 : w1.cell? ⟨w.heap.size, 3, none⟩ = some (.int .i64 (2 * a2)) := by rw [hb.cell (by simp <;> omega)]; go_simp
  have d0 : w1.cell? ⟨w.heap.size + 1, 0, none⟩ = some (.int .u64 0) := by rw [hb.cell (by simp <;> omega)]; go_simp
  have d1 : w1.cell? ⟨w.heap.size + 1, 1, none⟩ = some (.int .i64 0) := by rw [hb.cell (by simp <;> omega)]; go_simp
  have d2 : w1.cell? ⟨w.heap.size + 1, 2, none⟩ = some (.pointer none) := by rw [hb.cell (by simp <;> omega)]; go_simp
  have e1 : w.heap.size + 1 < w1.heap.size := by have := hb.size; simp at this; omega
  have bw : Below w.heap.size w w1 := by
    refine Below.trans ?_ (hb.mono (by simp; omega))
    refine Below.setCell ?_ (by simp) _
    repeat (first | exact Below.refl _ _ | apply Below.drew | refine Below.alloc ?_ (by first | omega | (simp <;> omega)) _)
  clear hb
  rw [if_neg (by have := H1.out; have := H2.out; omega)] at H5
  have t0 : w.heap.size < w1.heap.size := by omega
  have t1 : w.heap.size < w1.heap.size + 1 := by omega
  have t2 : w.heap.size < w1.heap.size + 1 + 1 := by omega
  have t3 : w.heap.size < w1.heap.size + 1 + 1 + 1 := by omega
  have t4 : w.heap.size < w1.heap.size + 1 + 1 + 1 + 1 := by omega
  have e2 : w.heap.size + 1 < w1.heap.size + 1 := by omega
  have e3 : w.heap.size + 1 < w1.heap.size + 1 + 1 := by omega
  have e4 : w.heap.size + 1 < w1.heap.size + 1 + 1 + 1 := by omega
  have e5 : w.heap.size + 1 < w1.heap.size + 1 + 1 + 1 + 1 := by omega
  have f1 : w1.heap.size < w1.heap.size + 1 := by omega
  have f2 : w1.heap.size < w1.heap.size + 1 + 1 := by omega
  have f3 : w1.heap.size < w1.heap.size + 1 + 1 + 1 := by omega
  have f4 : w1.heap.size < w1.heap.size + 1 + 1 + 1 + 1 := by omega
  go_wp2_with fail
  go_region_held3 (fun w' => w'.cell? ⟨w.heap.size, 0, none⟩ = some (.int .i64 a2) ∧ w'.cell? ⟨w.heap.size, 1, none⟩ = some (.int .i64 a3) ∧ w'.cell? ⟨w.heap.size, 2, none⟩ = some (.int .i64 a4) ∧ w'.cell? ⟨w.heap.size, 3, none⟩ = some (.int .i64 (2 * a2))
      ∧ w'.cell? ⟨w.heap.size + 1, 0, none⟩ = some (.int .u64 0) ∧ w'.cell? ⟨w.heap.size + 1, 1, none⟩ = some (.int .i64 0) ∧ w'.cell? ⟨w.heap.size + 1, 2, none⟩ = some (.pointer none)
      ∧ w'.cell? ⟨w1.heap.size, 0, none⟩ = some (.int .u64 r5) ∧ w'.cell? ⟨w1.heap.size, 1, none⟩ = some (.int .i64 q5) ∧ w'.cell? ⟨w1.heap.size, 2, none⟩ = some (.pointer none)) (go_simp)
    (first | (go_at_call 6; refine (add_x _ _ _ _ (by omega) (by omega) (by omega) (by omega) (by omega) (by omega)).mono ?_; rintro e w' ⟨r6, q6, rfl, rfl, h7, h8, H6⟩) | (go_at_call 8; refine (equal_x _ _ _ _ _ (by omega) (by omega) (by omega) (by omega) (by have := H1.out; have := H2.out; have := H5.out; have := H6.out; omega)).mono ?_; rintro e w' ⟨rfl, rfl⟩))
  all_goals
    go_wp2
    go_ret
    refine ⟨rfl, Below.trans bw ?_⟩
    repeat (first | exact Below.refl _ _ | apply Below.drew | refine Below.alloc ?_ (by first | omega | (simp <;> omega)) _)
end Go.Proofs.Ybulkcege
