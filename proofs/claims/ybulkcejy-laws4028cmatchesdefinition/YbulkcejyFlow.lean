import Derived.Test.YbulkcejyProg
namespace Go.Proofs.Ybulkcejy

/-! The plain law: sums, cuts, flows. No Go in sight. -/
def b2i (b : Bool) : Int := if b then 1 else 0
theorem b2i_nonneg (b : Bool) : 0 ≤ b2i b := by cases b <;> decide
def sumTo (f : Nat → Int) : Nat → Int
  | 0 => 0
  | n + 1 => sumTo f n + f n
theorem sumTo_congr {f g : Nat → Int} : ∀ {n : Nat}, (∀ i, i < n → f i = g i) → sumTo f n = sumTo g n
  | 0, _ => rfl
  | n + 1, h => by simp only [sumTo]; rw [sumTo_congr (fun i hi => h i (by omega)), h n (by omega)]
theorem sumTo_le {f g : Nat → Int} : ∀ {n : Nat}, (∀ i, i < n → f i ≤ g i) → sumTo f n ≤ sumTo g n
  | 0, _ => Int.le_refl _
  | n + 1, h => by
    simp only [sumTo]
    have h1 := sumTo_le (n := n) (fun i hi => h i (by omega))
    have h2 := h n (by omega)
    omega
theorem sumTo_nonneg {f : Nat → Int} : ∀ {n : Nat}, (∀ i, i < n → 0 ≤ f i) → 0 ≤ sumTo f n
  | 0, _ => Int.le_refl _
  | n + 1, h => by
    simp only [sumTo]
    have h1 := sumTo_nonneg (n := n) (fun i hi => h i (by omega))
    have h2 := h n (by omega)
    omega
theorem sumTo_zero {f : Nat → Int} : ∀ {n : Nat}, (∀ i, i < n → f i = 0) → sumTo f n = 0
  | 0, _ => rfl
  | n + 1, h => by
    simp only [sumTo]
    have h1 := sumTo_zero (n := n) (fun i hi => h i (by omega))
    have h2 := h n (by omega)
    omega
theorem sumTo_add {f g : Nat → Int} : ∀ {n : Nat}, sumTo (fun i => f i + g i) n = sumTo f n + sumTo g n
  | 0 => rfl
  | n + 1 => by simp only [sumTo]; rw [sumTo_add]; omega
theorem sumTo_one {f : Nat → Int} {n k : Nat} (hk : k < n) (h : ∀ i, i < n → 0 ≤ f i) : f k ≤ sumTo f n := by
  induction n with
  | zero => omega
  | succ n ih =>
    simp only [sumTo]
    have h2 := h n (by omega)
    rcases Nat.lt_or_ge k n with hn | hn
    · have := ih hn (fun i hi => h i (by omega))
      omega
    · obtain rfl : k = n := by omega
      have := sumTo_nonneg (n := k) (fun i hi => h i (by omega))
      omega
def upd (f : Nat → Int) (k : Nat) (v : Int) : Nat → Int := fun i => if i = k then v else f i
theorem upd_same (f : Nat → Int) (k : Nat) (v : Int) : upd f k v k = v := by simp [upd]
theorem upd_ne (f : Nat → Int) {k i : Nat} (v : Int) (h : i ≠ k) : upd f k v i = f i := by simp [upd, h]
theorem sumTo_upd {f : Nat → Int} {k : Nat} {v : Int} : ∀ {n : Nat}, sumTo (upd f k v) n = sumTo f n + (if k < n then v - f k else 0)
  | 0 => by simp [sumTo]
  | n + 1 => by
    simp only [sumTo]
    rw [sumTo_upd (n := n)]
    by_cases h1 : k < n
    · rw [if_pos h1, if_pos (by omega), upd_ne _ _ (by omega)]
      omega
    · by_cases h2 : k = n
      · subst h2
        rw [if_neg h1, if_pos (by omega), upd_same]
        omega
      · rw [if_neg h1, if_neg (by omega), upd_ne _ _ (by omega)]
        omega
theorem sumTo_split {f : Nat → Int} (n m : Nat) : sumTo f (n + m) = sumTo f n + sumTo (fun i => f (n + i)) m := by
  induction m with
  | zero => simp [sumTo]
  | succ m ih =>
    rw [← Nat.add_assoc]
    simp only [sumTo]
    rw [ih]
    omega
theorem sumTo_four {f : Nat → Int} : ∀ (n : Nat), sumTo f (4 * n) = sumTo (fun u => f (4 * u) + f (4 * u + 1) + f (4 * u + 2) + f (4 * u + 3)) n
  | 0 => rfl
  | n + 1 => by
    rw [show 4 * (n + 1) = 4 * n + 1 + 1 + 1 + 1 from by omega]
    simp only [sumTo]
    rw [sumTo_four n]
    omega
theorem sumTo_two {f : Nat → Int} : ∀ (n : Nat), sumTo f (2 * n) = sumTo (fun u => f (2 * u) + f (2 * u + 1)) n
  | 0 => rfl
  | n + 1 => by
    rw [show 2 * (n + 1) = 2 * n + 1 + 1 from by omega]
    simp only [sumTo]
    rw [sumTo_two n]
    omega

/-! Arcs. -/
def pt (a : Nat) : Nat := if a % 2 = 0 then a + 1 else a - 1
theorem pt_pt (a : Nat) : pt (pt a) = a := by
  unfold pt
  split
  · rw [if_neg (by omega)]; omega
  · rw [if_pos (by omega)]; omega
theorem pt_ne (a : Nat) : pt a ≠ a := by unfold pt; split <;> omega
theorem pt_lt {a A : Nat} (h : a < A) (hA : A % 2 = 0) : pt a < A := by unfold pt; split <;> omega

/-- The residual room across the cut S. -/
def X (A : Nat) (to : Nat → Nat) (S : Nat → Bool) (r : Nat → Int) : Int := sumTo (fun a => if S (to (pt a)) && !S (to a) then r a else 0) A
theorem X_nonneg {A : Nat} {to : Nat → Nat} {S : Nat → Bool} {r : Nat → Int} (h : ∀ a, a < A → 0 ≤ r a) : 0 ≤ X A to S r := by
  refine sumTo_nonneg fun i hi => ?_
  split
  · exact h i hi
  · exact Int.le_refl _
theorem X_closed {A : Nat} {to : Nat → Nat} {S : Nat → Bool} {r : Nat → Int} (h : ∀ a, a < A → S (to (pt a)) = true → r a ≠ 0 → S (to a) = true) : X A to S r = 0 := by
  refine sumTo_zero fun i hi => ?_
  split
  · rename_i hc
    simp only [Bool.and_eq_true, Bool.not_eq_true'] at hc
    rcases Int.lt_trichotomy (r i) 0 with h1 | h1 | h1
    · have := h i hi hc.1 (by omega)
      rw [hc.2] at this
      cases this
    · exact h1
    · have := h i hi hc.1 (by omega)
      rw [hc.2] at this
      cases this
  · rfl
/-- One arc's room turned, and its reverse's. -/
def push (r : Nat → Int) (a : Nat) (s : Int) : Nat → Int := upd (upd r a (r a - s)) (pt a) (r (pt a) + s)
theorem push_at (r : Nat → Int) (a : Nat) (s : Int) : push r a s a = r a - s := by
  unfold push
  rw [upd_ne _ _ (Ne.symm (pt_ne a)), upd_same]
theorem push_pt (r : Nat → Int) (a : Nat) (s : Int) : push r a s (pt a) = r (pt a) + s := by
  unfold push
  rw [upd_same]
theorem push_ne (r : Nat → Int) {a b : Nat} (s : Int) (h1 : b ≠ a) (h2 : b ≠ pt a) : push r a s b = r b := by
  unfold push
  rw [upd_ne _ _ h2, upd_ne _ _ h1]
theorem X_push {A : Nat} (hA : A % 2 = 0) {to : Nat → Nat} {S : Nat → Bool} {r : Nat → Int} {a : Nat} (ha : a < A) (s : Int) :
    X A to S (push r a s) = X A to S r - b2i (S (to (pt a))) * s + b2i (S (to a)) * s := by
  have e : ∀ i, i < A → (if S (to (pt i)) && !S (to i) then push r a s i else 0) = upd (upd (fun i => if S (to (pt i)) && !S (to i) then r i else 0) a (if S (to (pt a)) && !S (to a) then r a - s else 0)) (pt a) (if S (to a) && !S (to (pt a)) then r (pt a) + s else 0) i := by
    intro i _
    by_cases h1 : i = pt a
    · subst h1
      rw [upd_same, push_pt, pt_pt]
    · rw [upd_ne _ _ h1]
      by_cases h2 : i = a
      · subst h2
        rw [upd_same, push_at]
      · rw [upd_ne _ _ h2, push_ne _ _ h2 h1]
  unfold X
  rw [sumTo_congr e, sumTo_upd, sumTo_upd, if_pos ha, if_pos (pt_lt ha hA), upd_ne _ _ (pt_ne a), pt_pt]
  cases S (to (pt a)) <;> cases S (to a) <;> simp [b2i] <;> omega
end Go.Proofs.Ybulkcejy
