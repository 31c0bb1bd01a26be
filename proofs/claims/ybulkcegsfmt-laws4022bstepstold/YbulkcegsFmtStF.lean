import Derived.Test.YbulkcegsFmtStE
import Derived.Test.YbulkcegsFmtChk2
import Derived.Deep.QuietTactic
namespace Go.Proofs.YbulkcegsFmt
open Go.RowKit Go.Shelf Go.Extern.Stop Go.Stop Go.Extern
set_option linter.unusedVariables false

/-- What the law's own loop over the messages reckons. -/
def AP (md : Nat → ZM) : Nat → Bool
  | 0 => true
  | j + 1 => AP md j && (md j).p
def SM (md : Nat → ZM) : Nat → Bool
  | 0 => true
  | j + 1 => SM md j && ((md j).x == (md 0).x)
def SG (md : Nat → ZM) : Nat → Bool
  | 0 => true
  | j + 1 => SG md j && (md j).ok
def c2 (md : Nat → ZM) (q same : Bool) : Nat := code2 (md 0).p (md 1).p q (md 0).ok (md 1).ok (md 0).x (md 1).x (md 0).s (md 1).s same
theorem c2_cases (md : Nat → ZM) (q same : Bool) : c2 md q same = 0 ∨ c2 md q same = 1 ∨ c2 md q same = 2 := by
  unfold c2 code2
  split
  · exact .inl rfl
  · split
    · exact .inr (.inl rfl)
    · split
      · exact .inr (.inr rfl)
      · exact .inl rfl
theorem c2_1 {md : Nat → ZM} {q same : Bool} (h : c2 md q same = 1) : AP md 2 = true ∧ q = false := by
  unfold c2 code2 at h
  simp only [AP, Bool.true_and]
  cases hp : ((md 0).p && (md 1).p)
  · simp [hp] at h
  · refine ⟨rfl, ?_⟩
    cases q
    · rfl
    · rw [hp] at h
      simp only [Bool.true_eq_false, if_false] at h
      split at h <;> simp at h
theorem c2_2 {md : Nat → ZM} {q same : Bool} (h : c2 md q same = 2) : AP md 2 = true ∧ q = true ∧ SM md 2 = true ∧ SG md 2 = true ∧ (md 0).s = (md 1).s ∧ same = false := by
  unfold c2 code2 at h
  simp only [AP, SM, SG, Bool.true_and]
  cases hp : ((md 0).p && (md 1).p)
  · simp [hp] at h
  · cases q
    · simp [hp] at h
    · rw [hp] at h
      simp only [Bool.true_eq_false, if_false] at h
      split at h
      · rename_i h2
        simp only [Bool.and_eq_true, beq_iff_eq, decide_eq_true_eq, Bool.not_eq_true'] at h2
        obtain ⟨⟨⟨⟨e1, e2⟩, e3⟩, e4⟩, e5⟩ := h2
        simp [e1, e2, e3, e4, e5]
      · simp at h
theorem c2_0 {md : Nat → ZM} {q same : Bool} (h : c2 md q same = 0) (ha : AP md 2 = true) : q = true ∧ (SM md 2 = true → SG md 2 = true → (md 0).s = (md 1).s → same = true) := by
  unfold c2 code2 at h
  simp only [AP, SM, SG, Bool.true_and] at ha ⊢
  rw [ha] at h
  cases q
  · simp at h
  · refine ⟨rfl, fun h1 h2 h3 => ?_⟩
    simp only [Bool.true_eq_false, if_false] at h
    split at h
    · simp at h
    · rename_i h4
      cases same
      · exfalso
        apply h4
        simp only [Bool.and_eq_true, beq_iff_eq] at h1 h2
        simp [h1.2, h2.1, h2.2, h3]
      · rfl
theorem cell1_below {W W' : World} {rb : Nat} {u : Value} (hb : Below W.heap.size W W') (h : rb < W.heap.size) (k : W.cell? ⟨rb, 1, none⟩ = some u) : W'.cell? ⟨rb, 1, none⟩ = some u := (hb.cell (p := ⟨rb, 1, none⟩) h).trans k
theorem Below_drewN {n : Nat} {w W : World} (h : Below n w W) (k : Nat) : Below n w (W.drewN k) := ⟨h.os, h.tape, h.output, h.size, h.block⟩
theorem equal_q {v1 v2 : Value} {xs ys : List Int} {same : Bool} (hs : Hid (same = ((strOfNums xs).toList == (strOfNums ys).toList))) {w : World} (h1 : BytesAt w v1 xs) (h2 : BytesAt w v2 ys) :
    Calls Ybaf.prog 12 #[v1, v2] w fun e w' => e = .returned (.bool same) ∧ w' = w := by
  rw [hs.out]
  exact equal_calls v1 v2 xs ys w h1 h2
end Go.Proofs.YbulkcegsFmt
