import Derived.Test.YbulkcegeProg
import Derived.Test.YbulkcegeBits
import Derived.WalkKit
import Derived.WalkSpells
import Derived.WalkLawsBesides
import Derived.Below
import Derived.Outline
namespace Go.Proofs.Ybulkcege
open Go.RowKit
set_option linter.unusedVariables false

/-- A time of the wall kind, no location: 'q' seconds and 'r' nanoseconds past the zero time. -/
abbrev timeC (r q : Int) : Array Value := #[.int .u64 r, .int .i64 q, .pointer none]
abbrev timeV (r q : Int) : Value := .agg (timeC r q)

theorem nsec_any (b off : Nat) (r : Int) (w : World) (h0 : 0 ≤ r) (h1 : r < 1000000000) (hc : w.cell? ⟨b, off, none⟩ = some (.int .u64 r)) :
    Calls Yba.prog 14 #[.pointer (some ⟨b, off, none⟩)] w fun e w' => e = .returned (.int .i32 r) ∧ w' = w := by
  have hm := and_mask r h0 (by omega)
  go_enter Yba.func14, Yba.ntmps14
  go_wp2
  go_ret
  exact ⟨rfl, rfl⟩

theorem sec_any (b off : Nat) (r q : Int) (w : World) (h0 : 0 ≤ r) (h1 : r < 1000000000) (hc : w.cell? ⟨b, off, none⟩ = some (.int .u64 r)) (hc1 : w.cell? ⟨b, off + 1, none⟩ = some (.int .i64 q)) :
    Calls Yba.prog 18 #[.pointer (some ⟨b, off, none⟩)] w fun e w' => e = .returned (.int .i64 q) ∧ w' = w := by
  have hm := no_mono r h0 (by omega)
  go_enter Yba.func18, Yba.ntmps18
  go_wp2
  go_ret
  exact ⟨rfl, rfl⟩

theorem addSec_any (b off : Nat) (r q d : Int) (w : World) (h0 : 0 ≤ r) (h1 : r < 1000000000) (hc : w.cell? ⟨b, off, none⟩ = some (.int .u64 r)) (hc1 : w.cell? ⟨b, off + 1, none⟩ = some (.int .i64 q))
    (hf : w.frozen? ⟨b, off + 1, none⟩ = false) (q0 : -1000000000000 ≤ q) (q1 : q ≤ 1000000000000) (d0 : -1000000000000 ≤ d) (d1 : d ≤ 1000000000000) :
    Calls Yba.prog 15 #[.pointer (some ⟨b, off, none⟩), .int .i64 d] w fun e w' => e = .returned (.tuple #[]) ∧ w' = w.setCell ⟨b, off + 1, none⟩ (.int .i64 (q + d)) := by
  have hm := no_mono r h0 (by omega)
  have hs : (decide (q < q + d) == decide (0 < d)) = true := by
    by_cases h : 0 < d
    · simp [h]; omega
    · simp [h]; omega
  go_enter Yba.func15, Yba.ntmps15
  go_wp2
  go_end0
  exact ⟨rfl, rfl⟩

theorem add_mid (r q d s t : Int) (w : World) (h0 : 0 ≤ r) (h1 : r < 1000000000)
    (q0 : -100000000 ≤ q) (q1 : q ≤ 100000000) (_d0 : -100000000000000 ≤ d) (_d1 : d ≤ 100000000000000)
    (hs : d.tdiv 1000000000 = s) (ht : d.tmod 1000000000 = t) (s0 : -100001 ≤ s) (s1 : s ≤ 100001) (t0 : -1000000000 < t) (t1 : t < 1000000000)
    (c1 : 0 ≤ r + t) (c2 : r + t < 1000000000) :
    Calls Yba.prog 6 #[.agg #[.int .u64 r, .int .i64 q, .pointer none], .int .i64 d] w fun e w' =>
      e = .returned (timeV (r + t) (q + s)) ∧ w' = (w.alloc (.cells (timeC (r + t) (q + s)) 29)).alloc (.cells (timeC (r + t) (q + s)) 29) := by
  have hn := andNot_mask r h0 (by omega)
  have ho := or_zero (r + t) (by omega) (by omega)
  have hm := no_mono (r + t) (by omega) (by omega)
  go_enter Yba.func6, Yba.ntmps6
  go_wp2_with (first | (go_at_call 14; refine (nsec_any _ _ r _ h0 h1 (by simp)).mono ?_; rintro e w' ⟨rfl, rfl⟩) | (go_at_call 15; refine (addSec_any _ _ (r + t) q (s) _ (by omega) (by omega) (by simp) (by simp) (by simp) (by omega) (by omega) (by omega) (by omega)).mono ?_; rintro e w' ⟨rfl, rfl⟩))
  exact bodyPost_ret (v := timeV (r + t) (q + s)) (by simp [results, Yba.results6, go_sem]) rfl ⟨rfl, rfl⟩

theorem add_hi (r q d s t : Int) (w : World) (h0 : 0 ≤ r) (h1 : r < 1000000000)
    (q0 : -100000000 ≤ q) (q1 : q ≤ 100000000) (_d0 : -100000000000000 ≤ d) (_d1 : d ≤ 100000000000000)
    (hs : d.tdiv 1000000000 = s) (ht : d.tmod 1000000000 = t) (s0 : -100001 ≤ s) (s1 : s ≤ 100001) (t0 : -1000000000 < t) (t1 : t < 1000000000)
    (c1 : 1000000000 ≤ r + t) :
    Calls Yba.prog 6 #[.agg #[.int .u64 r, .int .i64 q, .pointer none], .int .i64 d] w fun e w' =>
      e = .returned (timeV (r + t - 1000000000) (q + (s + 1))) ∧ w' = (w.alloc (.cells (timeC (r + t - 1000000000) (q + (s + 1))) 29)).alloc (.cells (timeC (r + t - 1000000000) (q + (s + 1))) 29) := by
  have hn := andNot_mask r h0 (by omega)
  have ho := or_zero (r + t - 1000000000) (by omega) (by omega)
  have hm := no_mono (r + t - 1000000000) (by omega) (by omega)
  go_enter Yba.func6, Yba.ntmps6
  go_wp2_with (first | (go_at_call 14; refine (nsec_any _ _ r _ h0 h1 (by simp)).mono ?_; rintro e w' ⟨rfl, rfl⟩) | (go_at_call 15; refine (addSec_any _ _ (r + t - 1000000000) q ((s + 1)) _ (by omega) (by omega) (by simp) (by simp) (by simp) (by omega) (by omega) (by omega) (by omega)).mono ?_; rintro e w' ⟨rfl, rfl⟩))
  exact bodyPost_ret (v := timeV (r + t - 1000000000) (q + (s + 1))) (by simp [results, Yba.results6, go_sem]) rfl ⟨rfl, rfl⟩

theorem add_lo (r q d s t : Int) (w : World) (h0 : 0 ≤ r) (h1 : r < 1000000000)
    (q0 : -100000000 ≤ q) (q1 : q ≤ 100000000) (_d0 : -100000000000000 ≤ d) (_d1 : d ≤ 100000000000000)
    (hs : d.tdiv 1000000000 = s) (ht : d.tmod 1000000000 = t) (s0 : -100001 ≤ s) (s1 : s ≤ 100001) (t0 : -1000000000 < t) (t1 : t < 1000000000)
    (c1 : r + t < 0) :
    Calls Yba.prog 6 #[.agg #[.int .u64 r, .int .i64 q, .pointer none], .int .i64 d] w fun e w' =>
      e = .returned (timeV (r + t + 1000000000) (q + (s - 1))) ∧ w' = (w.alloc (.cells (timeC (r + t + 1000000000) (q + (s - 1))) 29)).alloc (.cells (timeC (r + t + 1000000000) (q + (s - 1))) 29) := by
  have hn := andNot_mask r h0 (by omega)
  have ho := or_zero (r + t + 1000000000) (by omega) (by omega)
  have hm := no_mono (r + t + 1000000000) (by omega) (by omega)
  go_enter Yba.func6, Yba.ntmps6
  go_wp2_with (first | (go_at_call 14; refine (nsec_any _ _ r _ h0 h1 (by simp)).mono ?_; rintro e w' ⟨rfl, rfl⟩) | (go_at_call 15; refine (addSec_any _ _ (r + t + 1000000000) q ((s - 1)) _ (by omega) (by omega) (by simp) (by simp) (by simp) (by omega) (by omega) (by omega) (by omega)).mono ?_; rintro e w' ⟨rfl, rfl⟩))
  exact bodyPost_ret (v := timeV (r + t + 1000000000) (q + (s - 1))) (by simp [results, Yba.results6, go_sem]) rfl ⟨rfl, rfl⟩


theorem add_any (r q d : Int) (w : World) (h0 : 0 ≤ r) (h1 : r < 1000000000)
    (q0 : -100000000 ≤ q) (q1 : q ≤ 100000000) (d0 : -100000000000000 ≤ d) (d1 : d ≤ 100000000000000) :
    Calls Yba.prog 6 #[timeV r q, .int .i64 d] w fun e w' =>
      e = .returned (timeV ((r + d) % 1000000000) (q + (r + d) / 1000000000)) ∧ w' = (w.alloc (.cells (timeC ((r + d) % 1000000000) (q + (r + d) / 1000000000)) 29)).alloc (.cells (timeC ((r + d) % 1000000000) (q + (r + d) / 1000000000)) 29) := by
  have e1 : d.tdiv 1000000000 * 1000000000 + d.tmod 1000000000 = d := by have := Int.mul_tdiv_add_tmod d 1000000000; omega
  have b1 : d.tmod 1000000000 < 1000000000 := Int.tmod_lt_of_pos d (by omega)
  have b2 : -1000000000 < d.tmod 1000000000 := by have := Int.lt_tmod_of_pos d (b := 1000000000) (by omega); omega
  generalize hs : d.tdiv 1000000000 = s at *
  generalize ht : d.tmod 1000000000 = t at *
  by_cases c1 : r + t < 0
  · have a1 : (r + d) % 1000000000 = r + t + 1000000000 := by omega
    have a2 : q + (r + d) / 1000000000 = q + (s - 1) := by omega
    rw [a1, a2]
    exact add_lo r q d s t w h0 h1 q0 q1 d0 d1 hs ht (by omega) (by omega) b2 b1 c1
  · by_cases c2 : 1000000000 ≤ r + t
    · have a1 : (r + d) % 1000000000 = r + t - 1000000000 := by omega
      have a2 : q + (r + d) / 1000000000 = q + (s + 1) := by omega
      rw [a1, a2]
      exact add_hi r q d s t w h0 h1 q0 q1 d0 d1 hs ht (by omega) (by omega) b2 b1 c2
    · have a1 : (r + d) % 1000000000 = r + t := by omega
      have a2 : q + (r + d) / 1000000000 = q + s := by omega
      rw [a1, a2]
      exact add_mid r q d s t w h0 h1 q0 q1 d0 d1 hs ht (by omega) (by omega) b2 b1 (by omega) (by omega)

theorem equal_any (r q r' q' : Int) (w : World) (h0 : 0 ≤ r) (h1 : r < 1000000000) (h2 : 0 ≤ r') (h3 : r' < 1000000000) :
    Calls Yba.prog 8 #[timeV r q, timeV r' q'] w fun e w' =>
      e = .returned (.bool (q == q' && r == r')) ∧ w' = (w.alloc (.cells (timeC r q) 29)).alloc (.cells (timeC r' q') 29) := by
  have hm := no_mono2 r r' h0 (by omega) h2 (by omega)
  have hm0 := no_mono r h0 (by omega)
  have hm1 := no_mono r' h2 (by omega)
  have ha0 := and_mask r h0 (by omega)
  have ha1 := and_mask r' h2 (by omega)
  cases c1 : (q == q')
  · go_enter Yba.func8, Yba.ntmps8
    go_wp2
    go_ret
    exact ⟨rfl, rfl⟩
  · go_enter Yba.func8, Yba.ntmps8
    go_wp2
    go_ret
    exact ⟨rfl, rfl⟩

theorem before_any (r q r' q' : Int) (w : World) (h0 : 0 ≤ r) (h1 : r < 1000000000) (h2 : 0 ≤ r') (h3 : r' < 1000000000) :
    Calls Yba.prog 17 #[timeV r q, timeV r' q'] w fun e w' =>
      e = .returned (.bool (decide (q < q') || (q == q' && decide (r < r')))) ∧ w' = (w.alloc (.cells (timeC r q) 29)).alloc (.cells (timeC r' q') 29) := by
  have hm := no_mono2 r r' h0 (by omega) h2 (by omega)
  have hm0 := no_mono r h0 (by omega)
  have hm1 := no_mono r' h2 (by omega)
  have ha0 := and_mask r h0 (by omega)
  have ha1 := and_mask r' h2 (by omega)
  cases c0 : decide (q < q')
  · cases c1 : (q == q')
    · go_enter Yba.func17, Yba.ntmps17
      go_wp2
      go_ret
      exact ⟨rfl, rfl⟩
    · go_enter Yba.func17, Yba.ntmps17
      go_wp2
      go_ret
      exact ⟨rfl, rfl⟩
  · go_enter Yba.func17, Yba.ntmps17
    go_wp2
    go_ret
    exact ⟨rfl, rfl⟩
end Go.Proofs.Ybulkcege
