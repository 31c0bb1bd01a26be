import Derived.Test.YbulkcejyFlow
namespace Go.Proofs.Ybulkcejy

/-- Where an arc of the cut network runs to; its first room. -/
def aTo (n : Nat) (ts : List (Nat × Nat)) (a : Nat) : Nat :=
  if a < 4 * n then (if a % 4 = 0 then 2 * n else if a % 4 = 3 then n + a / 4 else a / 4)
  else if a % 2 = 0 then n + (ts.getD ((a - 4 * n) / 2) (0, 0)).1 else (ts.getD ((a - 4 * n) / 2) (0, 0)).2
def aCap (n : Nat) (tried : Nat → Bool) (a : Nat) : Int :=
  if a < 4 * n then (if a % 4 = 0 then (if tried (a / 4) then (n : Int) + 1 else 1) else if a % 4 = 2 then 2 else 0)
  else if a % 2 = 0 then (n : Int) + 1 else 0
theorem aTo0 {n u : Nat} (ts : List (Nat × Nat)) (h : u < n) : aTo n ts (4 * u) = 2 * n := by
  unfold aTo; rw [if_pos (by omega), if_pos (by omega)]
theorem aTo1 {n u : Nat} (ts : List (Nat × Nat)) (h : u < n) : aTo n ts (4 * u + 1) = u := by
  unfold aTo; rw [if_pos (by omega), if_neg (by omega), if_neg (by omega)]; omega
theorem aTo2 {n u : Nat} (ts : List (Nat × Nat)) (h : u < n) : aTo n ts (4 * u + 2) = u := by
  unfold aTo; rw [if_pos (by omega), if_neg (by omega), if_neg (by omega)]; omega
theorem aTo3 {n u : Nat} (ts : List (Nat × Nat)) (h : u < n) : aTo n ts (4 * u + 3) = n + u := by
  unfold aTo; rw [if_pos (by omega), if_neg (by omega), if_pos (by omega)]; omega
theorem aToE {n k : Nat} (ts : List (Nat × Nat)) : aTo n ts (4 * n + 2 * k) = n + (ts.getD k (0, 0)).1 := by
  unfold aTo; rw [if_neg (by omega), if_pos (by omega), show (4 * n + 2 * k - 4 * n) / 2 = k from by omega]
theorem aToO {n k : Nat} (ts : List (Nat × Nat)) : aTo n ts (4 * n + (2 * k + 1)) = (ts.getD k (0, 0)).2 := by
  unfold aTo; rw [if_neg (by omega), if_neg (by omega), show (4 * n + (2 * k + 1) - 4 * n) / 2 = k from by omega]
theorem pt0 (u : Nat) : pt (4 * u) = 4 * u + 1 := by unfold pt; rw [if_pos (by omega)]
theorem pt1 (u : Nat) : pt (4 * u + 1) = 4 * u := by unfold pt; rw [if_neg (by omega)]; omega
theorem pt2 (u : Nat) : pt (4 * u + 2) = 4 * u + 3 := by unfold pt; rw [if_pos (by omega)]
theorem pt3 (u : Nat) : pt (4 * u + 3) = 4 * u + 2 := by unfold pt; rw [if_neg (by omega)]; omega
theorem ptE (n k : Nat) : pt (4 * n + 2 * k) = 4 * n + (2 * k + 1) := by unfold pt; rw [if_pos (by omega)]; omega
theorem ptO (n k : Nat) : pt (4 * n + (2 * k + 1)) = 4 * n + 2 * k := by unfold pt; rw [if_neg (by omega)]; omega

theorem X_cut {n : Nat} {ts : List (Nat × Nat)} {tried S : Nat → Bool} : X (4 * n + 2 * ts.length) (aTo n ts) S (aCap n tried) =
    sumTo (fun u => (if S u && !S (2 * n) then (if tried u then (n : Int) + 1 else 1) else 0) + (if S (n + u) && !S u then 2 else 0)) n
    + sumTo (fun k => if S (ts.getD k (0, 0)).2 && !S (n + (ts.getD k (0, 0)).1) then (n : Int) + 1 else 0) ts.length := by
  unfold X
  rw [sumTo_split, sumTo_four, sumTo_two]
  congr 1
  · refine sumTo_congr fun u hu => ?_
    rw [pt0, pt1, pt2, pt3, aTo0 ts hu, aTo1 ts hu, aTo2 ts hu, aTo3 ts hu]
    have c0 : aCap n tried (4 * u) = if tried u then (n : Int) + 1 else 1 := by
      unfold aCap; rw [if_pos (by omega), if_pos (by omega), show 4 * u / 4 = u from by omega]
    have c1 : aCap n tried (4 * u + 1) = 0 := by unfold aCap; rw [if_pos (by omega), if_neg (by omega), if_neg (by omega)]
    have c2 : aCap n tried (4 * u + 2) = 2 := by unfold aCap; rw [if_pos (by omega), if_neg (by omega), if_pos (by omega)]
    have c3 : aCap n tried (4 * u + 3) = 0 := by unfold aCap; rw [if_pos (by omega), if_neg (by omega), if_neg (by omega)]
    rw [c0, c1, c2, c3]
    simp
  · refine sumTo_congr fun k hk => ?_
    rw [ptE, ptO, aToE, aToO]
    have c0 : aCap n tried (4 * n + 2 * k) = (n : Int) + 1 := by unfold aCap; rw [if_neg (by omega), if_pos (by omega)]
    have c1 : aCap n tried (4 * n + (2 * k + 1)) = 0 := by unfold aCap; rw [if_neg (by omega), if_neg (by omega)]
    rw [c0, c1]
    simp

/-- The testers of D outside D; what D costs. -/
def TD (ts : List (Nat × Nat)) (D : Nat → Bool) (u : Nat) : Bool := !D u && ts.any (fun t => t.1 == u && D t.2)
def cost (n : Nat) (ts : List (Nat × Nat)) (D : Nat → Bool) : Int := sumTo (fun u => b2i (D u) + 2 * b2i (TD ts D u)) n

theorem getD_mem {ts : List (Nat × Nat)} {t : Nat × Nat} (h : t ∈ ts) : ∃ k, k < ts.length ∧ ts.getD k (0, 0) = t := by
  obtain ⟨k, hk, e⟩ := List.mem_iff_getElem.1 h
  exact ⟨k, hk, by simp [List.getD, List.getElem?_eq_getElem hk, e]⟩
theorem getD_in {ts : List (Nat × Nat)} {k : Nat} (h : k < ts.length) : ts.getD k (0, 0) ∈ ts := by
  simp only [List.getD, List.getElem?_eq_getElem h, Option.getD_some]
  exact List.getElem_mem h

/-- A cut that costs at most n comes from a set of units that costs no more and holds no unit that was tried. -/
theorem cut_lower {n : Nat} {ts : List (Nat × Nat)} {tried S : Nat → Bool} (hs : S (2 * n) = false) (hX : X (4 * n + 2 * ts.length) (aTo n ts) S (aCap n tried) ≤ n) :
    cost n ts S ≤ X (4 * n + 2 * ts.length) (aTo n ts) S (aCap n tried) ∧ ∀ u, u < n → S u = true → tried u = false := by
  rw [X_cut] at hX ⊢
  have nn1 : ∀ i, i < n → 0 ≤ (if S i && !S (2 * n) then (if tried i then (n : Int) + 1 else 1) else 0) + (if S (n + i) && !S i then (2 : Int) else 0) := by
    intro i _
    have a1 : 0 ≤ (if S i && !S (2 * n) then (if tried i then (n : Int) + 1 else 1) else 0) := by
      split
      · split <;> omega
      · omega
    have a2 : 0 ≤ (if S (n + i) && !S i then (2 : Int) else 0) := by split <;> omega
    omega
  have nn2 : ∀ k, k < ts.length → 0 ≤ (if S (ts.getD k (0, 0)).2 && !S (n + (ts.getD k (0, 0)).1) then (n : Int) + 1 else 0) := by
    intro k _
    split <;> omega
  have p1 := sumTo_nonneg nn1
  have p2 := sumTo_nonneg nn2
  have hno : ∀ t, t ∈ ts → S t.2 = true → S (n + t.1) = true := by
    intro t hm h2
    obtain ⟨k, hk, e⟩ := getD_mem hm
    cases h3 : S (n + t.1)
    · have v : (if S (ts.getD k (0, 0)).2 && !S (n + (ts.getD k (0, 0)).1) then (n : Int) + 1 else 0) = (n : Int) + 1 := by
        rw [e, h2, h3]
        rfl
      have := Int.le_trans (Int.le_of_eq v.symm) (sumTo_one hk nn2)
      omega
    · rfl
  have htr : ∀ u, u < n → S u = true → tried u = false := by
    intro u hu h1
    cases h3 : tried u
    · rfl
    · have v : (n : Int) + 1 ≤ (if S u && !S (2 * n) then (if tried u then (n : Int) + 1 else 1) else 0) + (if S (n + u) && !S u then (2 : Int) else 0) := by
        rw [h1, hs, h3]
        simp
      have := Int.le_trans v (sumTo_one hu nn1)
      omega
  refine ⟨?_, htr⟩
  have : cost n ts S ≤ sumTo (fun u => (if S u && !S (2 * n) then (if tried u then (n : Int) + 1 else 1) else 0) + (if S (n + u) && !S u then (2 : Int) else 0)) n := by
    refine sumTo_le fun u hu => ?_
    rw [hs]
    cases h1 : S u
    · cases h4 : TD ts S u
      · cases S (n + u) <;> simp [b2i]
      · have : S (n + u) = true := by
          unfold TD at h4
          rw [h1] at h4
          simp only [Bool.not_false, Bool.true_and, List.any_eq_true, Bool.and_eq_true, beq_iff_eq] at h4
          obtain ⟨t, hm, e, h5⟩ := h4
          rw [← e]
          exact hno t hm h5
        rw [this]
        simp [b2i]
    · have h4 : TD ts S u = false := by simp [TD, h1]
      rw [h4, htr u hu h1]
      simp [b2i]
  omega

/-- The cut of a set of units that holds none that was tried. -/
def cutOf (n : Nat) (ts : List (Nat × Nat)) (D : Nat → Bool) (v : Nat) : Bool := if v < n then D v else if v < 2 * n then ts.any (fun t => t.1 == v - n && D t.2) else false
theorem cut_upper {n : Nat} {ts : List (Nat × Nat)} {tried D : Nat → Bool} (ht : ∀ t, t ∈ ts → t.1 < n ∧ t.2 < n) (hD : ∀ u, u < n → D u = true → tried u = false) :
    X (4 * n + 2 * ts.length) (aTo n ts) (cutOf n ts D) (aCap n tried) = cost n ts D := by
  rw [X_cut]
  have e2 : sumTo (fun k => if cutOf n ts D (ts.getD k (0, 0)).2 && !cutOf n ts D (n + (ts.getD k (0, 0)).1) then (n : Int) + 1 else 0) ts.length = 0 := by
    refine sumTo_zero fun k hk => ?_
    have hm := getD_in hk
    obtain ⟨h1, h2⟩ := ht _ hm
    cases h3 : D (ts.getD k (0, 0)).2
    · have : cutOf n ts D (ts.getD k (0, 0)).2 = false := by unfold cutOf; rw [if_pos h2, h3]
      rw [this]
      simp
    · have : cutOf n ts D (n + (ts.getD k (0, 0)).1) = true := by
        unfold cutOf
        rw [if_neg (by omega), if_pos (by omega), List.any_eq_true]
        refine ⟨_, hm, ?_⟩
        show ((ts.getD k (0, 0)).1 == n + (ts.getD k (0, 0)).1 - n && D (ts.getD k (0, 0)).2) = true
        rw [h3, Nat.add_sub_cancel_left]
        simp only [beq_self_eq_true, Bool.and_self]
      rw [this]
      simp
  rw [e2]
  unfold cost
  rw [Int.add_zero]
  refine sumTo_congr fun u hu => ?_
  have h1 : cutOf n ts D u = D u := by unfold cutOf; rw [if_pos hu]
  have h2 : cutOf n ts D (2 * n) = false := by unfold cutOf; rw [if_neg (by omega), if_neg (by omega)]
  have h3 : cutOf n ts D (n + u) = ts.any (fun t => t.1 == u && D t.2) := by unfold cutOf; rw [if_neg (by omega), if_pos (by omega), show n + u - n = u from by omega]
  rw [h1, h2, h3]
  cases h4 : D u
  · simp only [TD, h4, b2i]
    cases ts.any (fun t => t.1 == u && D t.2) <;> simp
  · rw [hD u hu h4]
    simp [TD, h4, b2i]

/-- The least cost, as the definition has it. -/
def IsH (n : Nat) (ts : List (Nat × Nat)) (P : (Nat → Bool) → Prop) (h : Int) : Prop := h ≤ n ∧ (∀ D, P D → h ≤ cost n ts D) ∧ (h = n ∨ ∃ D, (∃ u, u < n ∧ D u = true) ∧ cost n ts D ≤ h)
def Some' (n : Nat) (D : Nat → Bool) : Prop := ∃ u, u < n ∧ D u = true
theorem IsH_unique {n : Nat} {ts : List (Nat × Nat)} {h h' : Int} (h1 : IsH n ts (Some' n) h) (h2 : IsH n ts (Some' n) h') : h = h' := by
  obtain ⟨a1, a2, a3⟩ := h1
  obtain ⟨b1, b2, b3⟩ := h2
  rcases a3 with rfl | ⟨D, hD, hc⟩
  · rcases b3 with rfl | ⟨D, hD, hc⟩
    · rfl
    · have := a2 D hD
      omega
  · have c1 := b2 D hD
    rcases b3 with rfl | ⟨D', hD', hc'⟩
    · omega
    · have := a2 D' hD'
      omega
end Go.Proofs.Ybulkcejy
