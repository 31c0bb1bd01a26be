import Derived.Test.YbulkcejyCut
namespace Go.Proofs.Ybulkcejy

def sumL (w : Nat → Int) : List Nat → Int
  | [] => 0
  | m :: M => w m + sumL w M
theorem sumL_le {f g : Nat → Int} : ∀ {M : List Nat}, (∀ m, m ∈ M → f m ≤ g m) → sumL f M ≤ sumL g M
  | [], _ => Int.le_refl _
  | m :: M, h => by
    simp only [sumL]
    have h1 := h m (List.mem_cons_self ..)
    have h2 := sumL_le (M := M) (fun i hi => h i (List.mem_cons_of_mem _ hi))
    omega
theorem sumL_congr {f g : Nat → Int} : ∀ {M : List Nat}, (∀ m, m ∈ M → f m = g m) → sumL f M = sumL g M
  | [], _ => rfl
  | m :: M, h => by
    simp only [sumL]
    rw [h m (List.mem_cons_self ..), sumL_congr (M := M) (fun i hi => h i (List.mem_cons_of_mem _ hi))]
theorem sumL_sumTo {n : Nat} : ∀ {M : List Nat} {w : Nat → Int}, M.Nodup → (∀ m, m ∈ M → m < n) → (∀ i, i < n → 0 ≤ w i) → sumL w M ≤ sumTo w n
  | [], w, _, _, hw => sumTo_nonneg hw
  | m :: M, w, hd, hl, hw => by
    obtain ⟨hm, hd'⟩ := List.nodup_cons.1 hd
    have hmn := hl m (List.mem_cons_self ..)
    have ih := sumL_sumTo (n := n) (M := M) (w := upd w m 0) hd' (fun i hi => hl i (List.mem_cons_of_mem _ hi)) (fun i hi => by
      unfold upd
      split
      · exact Int.le_refl _
      · exact hw i hi)
    rw [sumTo_upd, if_pos hmn] at ih
    have e : sumL (upd w m 0) M = sumL w M := sumL_congr fun i hi => upd_ne _ _ (fun e => hm (e ▸ hi))
    simp only [sumL]
    omega

/-- The tests of a unit, by their numbers; what each set that holds x and no unit before it must cost. -/
def lst (ts : List (Nat × Nat)) (x : Nat) : List Nat := (List.range ts.length).filter (fun k => (ts.getD k (0, 0)).2 == x)
def least (ts : List (Nat × Nat)) (x : Nat) : Int := 1 + ((lst ts x).length : Int) + (((lst ts x).filter (fun k => decide ((ts.getD k (0, 0)).1 < x))).length : Int)
theorem least_sum (ts : List (Nat × Nat)) (x : Nat) : ∀ L : List Nat, (L.length : Int) + ((L.filter (fun k => decide ((ts.getD k (0, 0)).1 < x))).length : Int) = sumL (fun a => 1 + b2i (decide (a < x))) (L.map fun k => (ts.getD k (0, 0)).1)
  | [] => rfl
  | k :: L => by
    have ih := least_sum ts x L
    simp only [List.map_cons, sumL, List.length_cons, List.filter_cons]
    by_cases h : (ts.getD k (0, 0)).1 < x
    · simp only [h, decide_true, if_true, List.length_cons]
      rw [show b2i true = 1 from rfl]
      omega
    · simp only [h, decide_false, Bool.false_eq_true, if_false]
      rw [show b2i false = 0 from rfl]
      omega
theorem lst_testers_nodup {ts : List (Nat × Nat)} (hn : ts.Nodup) (x : Nat) : ((lst ts x).map fun k => (ts.getD k (0, 0)).1).Nodup := by
  refine List.pairwise_map.2 (List.Pairwise.imp_of_mem ?_ (List.nodup_range.filter _ : (lst ts x).Nodup))
  intro i j hi hj hij e
  apply hij
  simp only [lst, List.mem_filter, List.mem_range, beq_iff_eq] at hi hj
  have e2 : ts.getD i (0, 0) = ts.getD j (0, 0) := Prod.ext e (hi.2.trans hj.2.symm)
  simp only [List.getD, List.getElem?_eq_getElem hi.1, List.getElem?_eq_getElem hj.1, Option.getD_some] at e2
  exact (List.getElem_inj hn).1 e2
theorem least_le {n : Nat} {ts : List (Nat × Nat)} (hn : ts.Nodup) (ht : ∀ t, t ∈ ts → t.1 < n ∧ t.2 < n ∧ t.1 ≠ t.2) {x : Nat} (hx : x < n) {D : Nat → Bool} (hD : D x = true) (hlt : ∀ u, u < x → D u = false) : least ts x ≤ cost n ts D := by
  have hm : ∀ a, a ∈ ((lst ts x).map fun k => (ts.getD k (0, 0)).1) → (a, x) ∈ ts := by
    intro a ha
    obtain ⟨k, hk, rfl⟩ := List.mem_map.1 ha
    simp only [lst, List.mem_filter, List.mem_range, beq_iff_eq] at hk
    have := getD_in hk.1
    rw [← hk.2]
    exact this
  have hs := sumL_sumTo (n := n) (M := x :: ((lst ts x).map fun k => (ts.getD k (0, 0)).1)) (w := fun u => b2i (D u) + 2 * b2i (TD ts D u))
    (List.nodup_cons.2 ⟨fun h => (ht _ (hm x h)).2.2 rfl, lst_testers_nodup hn x⟩) (by
      intro m h
      rcases List.mem_cons.1 h with rfl | h
      · exact hx
      · exact (ht _ (hm m h)).1) (fun i _ => by
      have h1 := b2i_nonneg (D i)
      have h2 := b2i_nonneg (TD ts D i)
      omega)
  have h2 : sumL (fun a => 1 + b2i (decide (a < x))) ((lst ts x).map fun k => (ts.getD k (0, 0)).1) ≤ sumL (fun u => b2i (D u) + 2 * b2i (TD ts D u)) ((lst ts x).map fun k => (ts.getD k (0, 0)).1) := by
    refine sumL_le fun a ha => ?_
    cases h3 : D a
    · have h4 : TD ts D a = true := by
        unfold TD
        rw [h3]
        simp only [Bool.not_false, Bool.true_and, List.any_eq_true, Bool.and_eq_true, beq_iff_eq]
        exact ⟨(a, x), hm a ha, rfl, hD⟩
      rw [h4]
      have := b2i (decide (a < x))
      by_cases h5 : a < x <;> simp [b2i, h5]
    · have h5 : ¬ a < x := fun h => by
        rw [hlt a h] at h3
        cases h3
      have h6 := b2i_nonneg (TD ts D a)
      simp only [b2i, h5, decide_false, Bool.false_eq_true, if_false, if_true] at h6 ⊢
      omega
  unfold least cost
  have h3 := least_sum ts x (lst ts x)
  have h4 : sumL (fun u => b2i (D u) + 2 * b2i (TD ts D u)) (x :: ((lst ts x).map fun k => (ts.getD k (0, 0)).1)) = b2i (D x) + 2 * b2i (TD ts D x) + sumL (fun u => b2i (D u) + 2 * b2i (TD ts D u)) ((lst ts x).map fun k => (ts.getD k (0, 0)).1) := rfl
  rw [h4, hD] at hs
  have h5 := b2i_nonneg (TD ts D x)
  have h6 : b2i true = 1 := rfl
  omega

/-- What maxFlow gives. -/
def FR (n : Nat) (ts : List (Nat × Nat)) (x : Nat) (limit f : Int) : Prop := f ≤ limit ∧ (∀ S : Nat → Bool, S x = true → S (2 * n) = false → f ≤ X (4 * n + 2 * ts.length) (aTo n ts) S (aCap n fun u => decide (u < x)))
  ∧ (f = limit ∨ ∃ S : Nat → Bool, S x = true ∧ S (2 * n) = false ∧ X (4 * n + 2 * ts.length) (aTo n ts) S (aCap n fun u => decide (u < x)) = f)
/-- h, behind the units before x. -/
def Upto (n x : Nat) (D : Nat → Bool) : Prop := ∃ u, u < x ∧ u < n ∧ D u = true
theorem step_skip {n : Nat} {ts : List (Nat × Nat)} (hn : ts.Nodup) (ht : ∀ t, t ∈ ts → t.1 < n ∧ t.2 < n ∧ t.1 ≠ t.2) {x : Nat} (hx : x < n) {h : Int} (hh : IsH n ts (Upto n x) h) (hl : h ≤ least ts x) : IsH n ts (Upto n (x + 1)) h := by
  obtain ⟨h1, h2, h3⟩ := hh
  refine ⟨h1, fun D hD => ?_, h3⟩
  by_cases hb : ∃ u, u < x ∧ D u = true
  · obtain ⟨u, hu, hu2⟩ := hb
    exact h2 D ⟨u, hu, by omega, hu2⟩
  · obtain ⟨u, hu, _, hu2⟩ := hD
    have e : u = x := by
      rcases Nat.lt_or_ge u x with h | h
      · exact absurd ⟨u, h, hu2⟩ hb
      · omega
    subst e
    have := least_le hn ht hx hu2 (fun v hv => by
      cases hv2 : D v
      · rfl
      · exact absurd ⟨v, hv, hv2⟩ hb)
    omega
theorem step_flow {n : Nat} {ts : List (Nat × Nat)} (ht : ∀ t, t ∈ ts → t.1 < n ∧ t.2 < n ∧ t.1 ≠ t.2) {x : Nat} (hx : x < n) {h f : Int} (hh : IsH n ts (Upto n x) h) (hf : FR n ts x h f) : IsH n ts (Upto n (x + 1)) f := by
  obtain ⟨h1, h2, h3⟩ := hh
  obtain ⟨f1, f2, f3⟩ := hf
  refine ⟨by omega, fun D hD => ?_, ?_⟩
  · by_cases hb : ∃ u, u < x ∧ D u = true
    · obtain ⟨u, hu, hu2⟩ := hb
      have := h2 D ⟨u, hu, by omega, hu2⟩
      omega
    · obtain ⟨u, hu, _, hu2⟩ := hD
      have e : u = x := by
        rcases Nat.lt_or_ge u x with h | h
        · exact absurd ⟨u, h, hu2⟩ hb
        · omega
      subst e
      have e2 := cut_upper (n := n) (ts := ts) (tried := fun v => decide (v < u)) (D := D) (fun t h => ⟨(ht t h).1, (ht t h).2.1⟩) (fun v _ hv2 => by
        by_cases hv : v < u
        · exact absurd ⟨v, hv, hv2⟩ hb
        · simp [hv])
      rw [← e2]
      exact f2 _ (by unfold cutOf; rw [if_pos hx]; exact hu2) (by unfold cutOf; rw [if_neg (by omega), if_neg (by omega)])
  · rcases f3 with rfl | ⟨S, s1, s2, s3⟩
    · exact h3
    · obtain ⟨c1, _⟩ := cut_lower (n := n) (ts := ts) (tried := fun v => decide (v < x)) (S := S) s2 (by omega)
      exact .inr ⟨S, ⟨x, hx, s1⟩, by omega⟩
theorem start_h (n : Nat) (ts : List (Nat × Nat)) : IsH n ts (Upto n 0) n := ⟨Int.le_refl _, fun D ⟨u, hu, _⟩ => absurd hu (by omega), .inl rfl⟩
theorem done_h {n : Nat} {ts : List (Nat × Nat)} {h : Int} (hh : IsH n ts (Upto n n) h) : IsH n ts (Some' n) h := ⟨hh.1, fun D ⟨u, hu, hu2⟩ => hh.2.1 D ⟨u, hu, hu, hu2⟩, hh.2.2⟩
end Go.Proofs.Ybulkcejy
