import Derived.Test.YbulkcejyAugQ
namespace Go.Proofs.Ybulkcejy
set_option linter.unusedVariables false

theorem X_congr {A : Nat} (hA : A % 2 = 0) {to to' : Nat → Nat} {S : Nat → Bool} {r r' : Nat → Int} (ht : ∀ a, a < A → to a = to' a) (hr : ∀ a, a < A → r a = r' a) : X A to S r = X A to' S r' := by
  unfold X
  refine sumTo_congr fun a ha => ?_
  rw [ht a ha, ht (pt a) (pt_lt ha hA), hr a ha]
/-- What the flows' invariant gives at the end. -/
theorem flow_FR {n : Nat} {ts : List (Nat × Nat)} {x : Nat} {limit f : Int} {c : Net} (hA : c.A = 4 * n + 2 * ts.length) (hto : ∀ a, a < c.A → tt c a = aTo n ts a) (hs : c.sink = 2 * n) {v0 v' : NV} (hcap : ∀ a, a < c.A → rm v0 a = aCap n (fun u => decide (u < x)) a)
    (hX : ∀ S : Nat → Bool, S x = true → S c.sink = false → X c.A (tt c) S (rm v') = X c.A (tt c) S (rm v0) - f) (hr : ∀ a, a < c.A → 0 ≤ rm v' a) (hl : f ≤ limit)
    (he : f = limit ∨ ∃ S : Nat → Bool, S x = true ∧ S c.sink = false ∧ X c.A (tt c) S (rm v') = 0) : FR n ts x limit f := by
  have hev : c.A % 2 = 0 := by omega
  have e : ∀ S : Nat → Bool, X c.A (tt c) S (rm v0) = X (4 * n + 2 * ts.length) (aTo n ts) S (aCap n fun u => decide (u < x)) := fun S => by
    rw [X_congr hev hto hcap, hA]
  refine ⟨hl, fun S h1 h2 => ?_, ?_⟩
  · have h3 := hX S h1 (by rw [hs]; exact h2)
    have h4 := X_nonneg (A := c.A) (to := tt c) (S := S) hr
    rw [e] at h3
    omega
  · rcases he with he | ⟨S, h1, h2, h3⟩
    · exact .inl he
    · refine .inr ⟨S, h1, by rw [← hs]; exact h2, ?_⟩
      have h4 := hX S h1 h2
      rw [e, h3] at h4
      omega
/-- The set that measure has seen, when it has not come to the sink, is a cut without room. -/
theorem seen_cut {c : Net} (hc : WFc c) {v : NV} (hog : ∀ a, a < c.A → ∃ u i, u < c.N ∧ i < (c.og u).length ∧ arc c u i = a) (hcl : ∀ u, u < c.N → sn v u = v.mark → ∀ i, i < (c.og u).length → rm v (arc c u i) ≠ 0 → sn v (tt c (arc c u i)) = v.mark) :
    X c.A (tt c) (fun u => decide (sn v u = v.mark)) (rm v) = 0 := by
  refine X_closed fun a ha h1 h2 => ?_
  obtain ⟨u, i, hu, hi, rfl⟩ := hog a ha
  have h3 := (hc.og u hu i hi).2
  rw [h3] at h1
  have h4 := of_decide_eq_true h1
  exact decide_eq_true (hcl u hu h4 i hi h2)
end Go.Proofs.Ybulkcejy
