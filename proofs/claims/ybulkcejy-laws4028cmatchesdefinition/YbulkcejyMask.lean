import Derived.Test.YbulkcejyDiag
namespace Go.Proofs.Ybulkcejy
set_option linter.unusedVariables false

def maskOf (D : Nat → Bool) : Nat → Nat
  | 0 => 0
  | m + 1 => maskOf D m + (if D m then 2 ^ m else 0)
theorem maskOf_lt (D : Nat → Bool) : ∀ m, maskOf D m < 2 ^ m
  | 0 => by simp [maskOf]
  | m + 1 => by
    have := maskOf_lt D m
    simp only [maskOf, Nat.pow_succ]
    split <;> omega
theorem maskOf_bit (D : Nat → Bool) : ∀ {m u : Nat}, u < m → (maskOf D m).testBit u = D u
  | m + 1, u, h => by
    have hl := maskOf_lt D m
    simp only [maskOf]
    rcases Nat.lt_or_ge u m with hu | hu
    · cases hD : D m
      · simp only [Bool.false_eq_true, if_false, Nat.add_zero]
        exact maskOf_bit D hu
      · simp only [if_true]
        rw [Nat.add_comm, Nat.testBit_two_pow_add_gt hu]
        exact maskOf_bit D hu
    · obtain rfl : u = m := by omega
      cases hD : D u
      · simp only [Bool.false_eq_true, if_false, Nat.add_zero]
        exact Nat.testBit_lt_two_pow hl
      · simp only [if_true]
        rw [Nat.add_comm, Nat.testBit_two_pow_add_eq, Nat.testBit_lt_two_pow hl]
        rfl
theorem cost_congr {n : Nat} {ts : List (Nat × Nat)} {D D' : Nat → Bool} (ht : ∀ t, t ∈ ts → t.1 < n ∧ t.2 < n) (h : ∀ u, u < n → D u = D' u) : cost n ts D = cost n ts D' := by
  unfold cost
  refine sumTo_congr fun u hu => ?_
  have e : TD ts D u = TD ts D' u := by
    unfold TD
    rw [h u hu]
    congr 1
    refine Bool.eq_iff_iff.2 ?_
    simp only [List.any_eq_true, Bool.and_eq_true, beq_iff_eq]
    constructor
    · rintro ⟨t, hm, e, hD⟩
      exact ⟨t, hm, e, by rw [← h t.2 (ht t hm).2]; exact hD⟩
    · rintro ⟨t, hm, e, hD⟩
      exact ⟨t, hm, e, by rw [h t.2 (ht t hm).2]; exact hD⟩
  rw [h u hu, e]
/-- The model's answer, when every mask has been tried. -/
theorem model_h {n : Nat} {ts : List (Nat × Nat)} (ht : ∀ t, t ∈ ts → t.1 < n ∧ t.2 < n) {h : Int} (h1 : h ≤ n) (h2 : ∀ k, 1 ≤ k → k < 2 ^ n → h ≤ cost n ts (fun u => k.testBit u)) (h3 : h = n ∨ ∃ k, 1 ≤ k ∧ k < 2 ^ n ∧ cost n ts (fun u => k.testBit u) ≤ h) : IsH n ts (Some' n) h := by
  refine ⟨h1, fun D ⟨u, hu, hD⟩ => ?_, ?_⟩
  · have hl := maskOf_lt D n
    have hpos : 1 ≤ maskOf D n := by
      rcases Nat.eq_zero_or_pos (maskOf D n) with e | e
      · have := maskOf_bit D hu
        rw [e, hD] at this
        simp at this
      · exact e
    have := h2 _ hpos hl
    rw [cost_congr (D := D) (D' := fun u => (maskOf D n).testBit u) ht (fun u hu => (maskOf_bit D hu).symm)]
    exact this
  · rcases h3 with h3 | ⟨k, k1, k2, k3⟩
    · exact .inl h3
    · refine .inr ⟨_, ?_, k3⟩
      rcases Classical.em (∃ u, u < n ∧ k.testBit u = true) with q | q
      · exact q
      · exfalso
        have : k = 0 := by
          apply Nat.eq_of_testBit_eq
          intro i
          rw [Nat.zero_testBit]
          rcases Nat.lt_or_ge i n with hi | hi
          · cases e : k.testBit i
            · rfl
            · exact absurd ⟨i, hi, e⟩ q
          · exact Nat.testBit_lt_two_pow (Nat.lt_of_lt_of_le k2 (Nat.pow_le_pow_right (by omega) hi))
        omega
end Go.Proofs.Ybulkcejy
