import Derived.Test.YbulkcegeAfter
import Derived.Deep.LoopGhost
import Derived.Deep.DeepCutAuto
namespace Go.Proofs.Ybulkcege
open Go.RowKit
set_option linter.unusedVariables false
attribute [local go_sem ↓] Go.wp_at_zero Go.wp_at_succ

/-- The wait at the k-th failure in a row. -/
def dbl : Nat → Int
  | 0 => 100000000
  | k + 1 => if 30000000000 < 2 * dbl k then 30000000000 else 2 * dbl k

theorem dbl_bd (k : Nat) : 100000000 ≤ dbl k ∧ dbl k ≤ 30000000000 := by
  induction k with
  | zero => simp [dbl]
  | succ k ih => unfold dbl; split <;> omega

theorem dbl_top (i : Nat) (h : 30000000000 ≤ dbl i) (n : Nat) : dbl (i + n) = 30000000000 := by
  induction n with
  | zero => have := dbl_bd i; simp; omega
  | succ n ih => rw [← Nat.add_assoc]; unfold dbl; rw [ih]; rfl

theorem dbl_top' (i k : Nat) (h : 30000000000 ≤ dbl i) (hk : i ≤ k) : dbl i = dbl k := by
  have h1 := dbl_top i h (k - i)
  have h2 := dbl_top i h 0
  rw [Nat.add_sub_cancel' hk] at h1
  rw [h1]; exact h2

theorem dial_any (w : World) :
    Calls Yba.prog 9 #[.int .i64 0] w fun e w' => e = .returned (.agg #[.int .i64 100000000, .int .i64 30000000000, .int .i64 0, .int .i64 0]) ∧
      w' = w.alloc (.cells #[.int .i64 100000000, .int .i64 30000000000, .int .i64 0, .int .i64 0] 25) := by
  go_enter Yba.func9, Yba.ntmps9
  go_wp2
  exact bodyPost_ret (v := .agg #[.int .i64 100000000, .int .i64 30000000000, .int .i64 0, .int .i64 0]) (by simp [results, Yba.results9, go_sem]) rfl ⟨rfl, rfl⟩

theorem connected_any (b : Nat) (v : Int) (w : World) (hc : w.cell? ⟨b, 3, none⟩ = some (.int .i64 v)) (hf : w.frozen? ⟨b, 3, none⟩ = false) :
    Calls Yba.prog 10 #[.pointer (some ⟨b, 0, none⟩)] w fun e w' => e = .returned (.tuple #[]) ∧ w' = w.setCell ⟨b, 3, none⟩ (.int .i64 0) := by
  go_enter Yba.func10, Yba.ntmps10
  go_wp2
  go_end0
  exact ⟨rfl, rfl⟩

/-- The law's own memory in mid-script: the backoff in block B (its wait is W), the zero time in block Z; nothing old has turned. -/
structure DSt (w wr : World) (B Z : Nat) (W : Int) : Prop where
  below : Below w.heap.size w wr
  newB : w.heap.size ≤ B
  bB : B < wr.heap.size
  bZ : Z < wr.heap.size
  ne : Z ≠ B
  c0 : wr.cell? ⟨B, 0, none⟩ = some (.int .i64 100000000)
  c1 : wr.cell? ⟨B, 1, none⟩ = some (.int .i64 30000000000)
  c2 : wr.cell? ⟨B, 2, none⟩ = some (.int .i64 0)
  c3 : wr.cell? ⟨B, 3, none⟩ = some (.int .i64 W)
  fz : wr.frozen? ⟨B, 3, none⟩ = false
  z0 : wr.cell? ⟨Z, 0, none⟩ = some (.int .u64 0)
  z1 : wr.cell? ⟨Z, 1, none⟩ = some (.int .i64 0)
  z2 : wr.cell? ⟨Z, 2, none⟩ = some (.pointer none)

theorem DSt.later {w wr wr' : World} {B Z : Nat} {W : Int} (h : DSt w wr B Z W) (hb : Below wr.heap.size wr wr') : DSt w wr' B Z W :=
  ⟨h.below.trans (hb.mono h.below.size), h.newB, Nat.lt_of_lt_of_le h.bB hb.size, Nat.lt_of_lt_of_le h.bZ hb.size, h.ne,
    (hb.cell h.bB).trans h.c0, (hb.cell h.bB).trans h.c1, (hb.cell h.bB).trans h.c2, (hb.cell h.bB).trans h.c3, (hb.frozen h.bB).trans h.fz,
    (hb.cell h.bZ).trans h.z0, (hb.cell h.bZ).trans h.z1, (hb.cell h.bZ).trans h.z2⟩

theorem DSt.set {w wr : World} {B Z : Nat} {W : Int} (h : DSt w wr B Z W) (V : Int) : DSt w (wr.setCell ⟨B, 3, none⟩ (.int .i64 V)) B Z V := by
  have hB := h.bB
  have hne := h.ne
  refine ⟨h.below.setCell h.newB _, h.newB, by simpa using h.bB, by simpa using h.bZ, h.ne, ?_, ?_, ?_, ?_, ?_, ?_, ?_, ?_⟩
  · rw [World.cell?_setCell_other _ _ _ _ (by simp)]; exact h.c0
  · rw [World.cell?_setCell_other _ _ _ _ (by simp)]; exact h.c1
  · rw [World.cell?_setCell_other _ _ _ _ (by simp)]; exact h.c2
  · exact World.cell?_setCell_same _ _ _ h.c3
  · exact (World.frozen?_setCell ..).trans h.fz
  · exact (World.cell?_setCell_far _ _ _ _ (Ne.symm hne)).trans h.z0
  · exact (World.cell?_setCell_far _ _ _ _ (Ne.symm hne)).trans h.z1
  · exact (World.cell?_setCell_far _ _ _ _ (Ne.symm hne)).trans h.z2

theorem after_dial {w wr : World} {B Z : Nat} (k : Nat) (h : DSt w wr B Z (if k = 0 then 0 else dbl k)) :
    Calls Yba.prog 7 #[.pointer (some ⟨B, 0, none⟩), timeV 0 0, timeV 0 0] wr fun e w' => ∃ r' q' : Int, e = .returned (timeV r' q') ∧ 0 ≤ r' ∧ r' < 1000000000 ∧ Hid (q' * 1000000000 + r' = dbl k) ∧ DSt w w' B Z (dbl (k + 1)) := by
  have hd := dbl_bd k
  by_cases hk : k = 0
  · subst hk
    refine (after_first B 100000000 30000000000 0 0 0 0 0 wr (by omega) (by omega) (by omega) (by omega) (by omega) (by omega) (by omega) (by omega) (by omega) (by omega) (by omega) (by omega) h.c0 h.c1 h.c2 h.c3 h.fz h.bB).mono ?_
    rintro e w' ⟨r', q', rfl, h1, h2, H, hb⟩
    refine ⟨r', q', rfl, h1, h2, ?_, (h.set _).later (by simpa [show dbl 1 = 200000000 from rfl] using hb)⟩
    have := H.out
    show _ = _
    simp [dbl] at this ⊢
    exact this
  · rw [if_neg hk] at h
    refine (after_later B 100000000 30000000000 0 (dbl k) 0 0 0 0 wr (by omega) (by omega) (by omega) (by omega) (by omega) (by omega) (by omega) (by omega) (by omega) (by omega) (by omega) (by omega) (beq_eq_false_iff_ne.2 (by omega)) h.c0 h.c1 h.c2 h.c3 h.fz h.bB).mono ?_
    rintro e w' ⟨r', q', rfl, h1, h2, H, hb⟩
    refine ⟨r', q', rfl, h1, h2, ?_, (h.set _).later (by simpa [dbl] using hb)⟩
    have := H.out
    show _ = _
    rw [if_neg (by omega)] at this
    omega

set_option maxHeartbeats 1600000 in
theorem dial_walk (a0 : Option Addr) (len cap : Nat) (w : World) (hlen : len ≤ 1024)
    (hcell : ∀ j : Nat, j < len → ∃ (b off : Nat) (v : Int), a0 = some ⟨b, off, none⟩ ∧ w.cell? ⟨b, off + j, none⟩ = some (.int .u8 v) ∧ 0 ≤ v ∧ v ≤ 255) :
    Calls Yba.prog 4 #[.slice a0 len cap] w fun e w' => e = .returned (.bool true) ∧ Below w.heap.size w w' := by
  have hl : (len : Int) ≤ 1024 := by omega
  have HC : Hid (∀ j : Nat, j < len → ∃ (b off : Nat) (v : Int), a0 = some ⟨b, off, none⟩ ∧ w.cell? ⟨b, off + j, none⟩ = some (.int .u8 v) ∧ 0 ≤ v ∧ v ≤ 255) := hcell
  clear hcell
  go_enter Yba.func4, Yba.ntmps4
  go_wp2_with (first | (go_at_call 9; refine (dial_any _).mono ?_; rintro e w' ⟨rfl, rfl⟩))
  go_loopg [5, 7, 8, 9, 10, 17] len (fun g s5 s7 s8 s9 s10 s17 wr => ∃ j k : Nat, j + g = len ∧ k ≤ j ∧ s5 = .int .i64 k ∧ s17 = .int .i64 j ∧ DSt w wr (w.heap.size + 1) (w.heap.size + 1 + 1) (if k = 0 then 0 else dbl k))
  case atStart =>
    refine ⟨0, 0, by omega, by omega, rfl, rfl, ?_⟩
    refine ⟨?_, by omega, by simp <;> omega, by simp <;> omega, by omega, ?_, ?_, ?_, ?_, ?_, ?_, ?_, ?_⟩
    · repeat (first | exact Below.refl _ _ | apply Below.drew | refine Below.alloc ?_ (by first | omega | (simp <;> omega)) _)
    all_goals go_simp
  case round =>
    obtain ⟨j, k, hj, hkj, rfl, rfl, hst⟩ := hrel
    have c0 := hst.c0
    have c1 := hst.c1
    have c2 := hst.c2
    have z0 := hst.z0
    have z1 := hst.z1
    have z2 := hst.z2
    have bw := hst.below
    have HJ : Hid (j + gk = len) := hj
    clear hj
    by_cases hg : j < len
    · obtain ⟨b, off, v, rfl, hc, v0, v1⟩ := HC.out j hg
      have hcw : wr.cell? ⟨b, off + j, none⟩ = some (.int .u8 v) := cell_later bw hc
      have hji : (j : Int) < len := by omega
      by_cases hm : v % 4 = 0
      · have hmb : (v % 4 == 0) = true := by simp [hm]
        clear hm
        have c3 := hst.c3
        have fz := hst.fz
        go_wp2_with (first | (go_at_call 10; refine (connected_any _ _ _ c3 fz).mono ?_; rintro e w' ⟨rfl, rfl⟩))
        go_roundg (gk - 1)
        case measure => have := HJ.out; omega
        case rel => exact ⟨j + 1, 0, by have := HJ.out; omega, by omega, by go_num, by go_num, by simpa using hst.set 0⟩
      · have hmb : (v % 4 == 0) = false := by simp [hm]
        clear hm
        go_wp2_with fail
        refine (after_dial k hst).mono ?_
        rintro e w1 ⟨r1, q1, rfl, h1, h2, H1, hst1⟩
        clear hst c0 c1 c2 z0 z1 z2 hcw hc
        have z0 := hst1.z0
        have z1 := hst1.z1
        have z2 := hst1.z2
        have t0 := hst1.bZ
        have t1 : w.heap.size + 1 + 1 < w1.heap.size + 1 := by omega
        have t2 : w.heap.size + 1 + 1 < w1.heap.size + 1 + 1 := by omega
        have t3 : w.heap.size + 1 + 1 < w1.heap.size + 1 + 1 + 1 := by omega
        have t4 : w.heap.size + 1 + 1 < w1.heap.size + 1 + 1 + 1 + 1 := by omega
        have f1 : w1.heap.size < w1.heap.size + 1 := by omega
        have f2 : w1.heap.size < w1.heap.size + 1 + 1 := by omega
        have f3 : w1.heap.size < w1.heap.size + 1 + 1 + 1 := by omega
        have f4 : w1.heap.size < w1.heap.size + 1 + 1 + 1 + 1 := by omega
        have hk0 : (k : Int) ≤ 1024 := by omega
        go_wp2_with fail
        go_loop [9, 10] (fun s9 s10 => ∃ i : Nat, i ≤ k ∧ s9 = .int .i64 (dbl i) ∧ s10 = .int .i64 i) (fun _ s10 => k - (intOf s10).toNat)
        case atStart => exact ⟨0, by omega, rfl, rfl⟩
        case round =>
          obtain ⟨i, hik, rfl, rfl⟩ := hrel
          obtain ⟨d1, d2⟩ := dbl_bd i
          have HD : Hid (dbl (i + 1) = if 30000000000 < 2 * dbl i then 30000000000 else 2 * dbl i) := rfl
          have HE : Hid (30000000000 ≤ dbl i → dbl i = dbl k) := fun h => dbl_top' i k h hik
          by_cases hik2 : i < k
          · have hiki : (i : Int) < k := by omega
            by_cases hlt : dbl i < 30000000000
            · by_cases hgt : 30000000000 < 2 * dbl i
              · go_wp2_with fail
                go_round
                case rel => exact ⟨i + 1, by omega, by rw [HD.out, if_pos hgt], by go_num⟩
                case measure => simp [intOf]; omega
              · go_wp2_with fail
                go_round
                case rel => exact ⟨i + 1, by omega, by rw [HD.out, if_neg hgt]; go_num, by go_num⟩
                case measure => simp [intOf]; omega
            · have HF : Hid (dbl i = dbl k) := HE.out (by omega)
              go_wp2_with fail
              go_region_held3 (fun w' => w'.cell? ⟨w.heap.size + 1 + 1, 0, none⟩ = some (.int .u64 0) ∧ w'.cell? ⟨w.heap.size + 1 + 1, 1, none⟩ = some (.int .i64 0) ∧ w'.cell? ⟨w.heap.size + 1 + 1, 2, none⟩ = some (.pointer none)
                  ∧ w'.cell? ⟨w1.heap.size, 0, none⟩ = some (.int .u64 r1) ∧ w'.cell? ⟨w1.heap.size, 1, none⟩ = some (.int .i64 q1) ∧ w'.cell? ⟨w1.heap.size, 2, none⟩ = some (.pointer none)) (go_simp)
                (first | (go_at_call 6; refine (add_x _ _ _ _ (by omega) (by omega) (by omega) (by omega) (by omega) (by omega)).mono ?_; rintro e w' ⟨r6, q6, rfl, rfl, h7, h8, H6⟩) | (go_at_call 8; refine (equal_x _ _ _ _ _ (by omega) (by omega) (by omega) (by omega) (by have := H1.out; have := H6.out; have := HF.out; omega)).mono ?_; rintro e w' ⟨rfl, rfl⟩))
              all_goals
                go_wp2_with fail
                go_roundg (gk - 1)
                case measure => have := HJ.out; omega
                case rel =>
                  refine ⟨j + 1, k + 1, by have := HJ.out; omega, by omega, by go_num, by go_num, ?_⟩
                  rw [if_neg (by omega)]
                  refine hst1.later ?_
                  repeat (first | exact Below.refl _ _ | apply Below.drew | refine Below.alloc ?_ (by first | omega | (simp <;> omega)) _)
          · have hiki : ¬ (i : Int) < k := by omega
            have HF : Hid (dbl i = dbl k) := by show _ = _; rw [show i = k from by omega]
            go_wp2_with fail
            go_region_held3 (fun w' => w'.cell? ⟨w.heap.size + 1 + 1, 0, none⟩ = some (.int .u64 0) ∧ w'.cell? ⟨w.heap.size + 1 + 1, 1, none⟩ = some (.int .i64 0) ∧ w'.cell? ⟨w.heap.size + 1 + 1, 2, none⟩ = some (.pointer none)
                ∧ w'.cell? ⟨w1.heap.size, 0, none⟩ = some (.int .u64 r1) ∧ w'.cell? ⟨w1.heap.size, 1, none⟩ = some (.int .i64 q1) ∧ w'.cell? ⟨w1.heap.size, 2, none⟩ = some (.pointer none)) (go_simp)
              (first | (go_at_call 6; refine (add_x _ _ _ _ (by omega) (by omega) (by omega) (by omega) (by omega) (by omega)).mono ?_; rintro e w' ⟨r6, q6, rfl, rfl, h7, h8, H6⟩) | (go_at_call 8; refine (equal_x _ _ _ _ _ (by omega) (by omega) (by omega) (by omega) (by have := H1.out; have := H6.out; have := HF.out; omega)).mono ?_; rintro e w' ⟨rfl, rfl⟩))
            all_goals
              go_wp2_with fail
              go_roundg (gk - 1)
              case measure => have := HJ.out; omega
              case rel =>
                refine ⟨j + 1, k + 1, by have := HJ.out; omega, by omega, by go_num, by go_num, ?_⟩
                rw [if_neg (by omega)]
                refine hst1.later ?_
                repeat (first | exact Below.refl _ _ | apply Below.drew | refine Below.alloc ?_ (by first | omega | (simp <;> omega)) _)
    · have hji : ¬ (j : Int) < len := by omega
      go_wp2
      go_ret
      exact ⟨rfl, bw⟩
end Go.Proofs.Ybulkcege
