import Derived.Test.YbulkcejyDiag
import Derived.Below
import Derived.Laws.AppendOwn
import Derived.Laws.OwnMore
namespace Go.Proofs.Ybulkcejy
open Go.RowKit

/-! Blocks by labels: label l lies in block blk l, which holds cont l and, behind it, cells that nobody reads. -/
def updF {α : Type} (f : Nat → α) (l : Nat) (x : α) : Nat → α := fun i => if i = l then x else f i
theorem updF_same {α : Type} (f : Nat → α) (l : Nat) (x : α) : updF f l x l = x := by simp [updF]
theorem updF_ne {α : Type} (f : Nat → α) {l i : Nat} (x : α) (h : i ≠ l) : updF f l x i = f i := by simp [updF, h]

structure HP (L : Nat) (W : World) (blk : Nat → Option Nat) (cont : Nat → List Value) (cp : Nat → Nat) (ty : Nat → Nat) : Prop where
  at' : ∀ l b, blk l = some b → L ≤ b ∧ ∃ cur, W.heap[b]? = some (.cells cur (ty l) (0, 0)) ∧ cur.size = cp l ∧ ∃ rest, cur.toList = cont l ++ rest
  inj : ∀ l l' b, blk l = some b → blk l' = some b → l = l'

variable {L : Nat} {W : World} {blk : Nat → Option Nat} {cont : Nat → List Value} {cp : Nat → Nat} {ty : Nat → Nat}
theorem HP.lt (h : HP L W blk cont cp ty) {l b : Nat} (hb : blk l = some b) : L ≤ b ∧ b < W.heap.size := by
  obtain ⟨h1, cur, h2, _⟩ := h.at' l b hb
  exact ⟨h1, (Array.getElem?_eq_some_iff.1 h2).1⟩
theorem HP.read (h : HP L W blk cont cp ty) {l b : Nat} (hb : blk l = some b) {i : Nat} {v : Value} (hv : (cont l)[i]? = some v) : W.cell? ⟨b, i, none⟩ = some v := by
  obtain ⟨_, cur, h2, _, rest, h3⟩ := h.at' l b hb
  rw [cell_of_row W b i cur _ (0, 0) h2]
  have hi := (List.getElem?_eq_some_iff.1 hv).1
  rw [← Array.getElem?_toList, h3, List.getElem?_append_left hi]
  exact hv
theorem HP.frozen (h : HP L W blk cont cp ty) {l b : Nat} (hb : blk l = some b) (i : Nat) : W.frozen? ⟨b, i, none⟩ = false := by
  obtain ⟨_, cur, h2, _⟩ := h.at' l b hb
  exact frozen_of_row W b i cur _ h2
theorem HP.store (h : HP L W blk cont cp ty) {l b : Nat} (hb : blk l = some b) {i : Nat} (hi : i < (cont l).length) (u : Value) : HP L (W.setCell ⟨b, i, none⟩ u) blk (updF cont l ((cont l).set i u)) cp ty := by
  refine ⟨fun l' b' hb' => ?_, h.inj⟩
  obtain ⟨h1, cur, h2, h3, rest, h4⟩ := h.at' l' b' hb'
  by_cases hl : l' = l
  · subst hl
    obtain rfl : b = b' := Option.some.inj (hb.symm.trans hb')
    refine ⟨h1, cur.setIfInBounds i u, heap_setCell_same W b i cur _ u h2, by simpa using h3, rest, ?_⟩
    rw [updF_same, Array.toList_setIfInBounds, h4, List.set_append_left _ _ hi]
  · refine ⟨h1, cur, ?_, h3, rest, by rw [updF_ne _ _ hl]; exact h4⟩
    rw [heap_setCell_other W ⟨b, i, none⟩ b' u (fun e => hl (h.inj l' l b' hb' (by rw [hb]; exact congrArg some e.symm)))]
    exact h2
theorem HP.storeBelow (h : HP L W blk cont cp ty) {l b : Nat} (hb : blk l = some b) (i : Nat) (u : Value) : Below L W (W.setCell ⟨b, i, none⟩ u) :=
  (Below.refl _ _).setCell (p := ⟨b, i, none⟩) (h.lt hb).1 _
theorem HP.grow (h : HP L W blk cont cp ty) {W' : World} (hb : Below W.heap.size W W') : HP L W' blk cont cp ty := by
  refine ⟨fun l b hl => ?_, h.inj⟩
  obtain ⟨h1, cur, h2, h3⟩ := h.at' l b hl
  exact ⟨h1, cur, (hb.block b (Array.getElem?_eq_some_iff.1 h2).1).trans h2, h3⟩
/-- A block made now takes a label that lay nowhere. -/
theorem HP.made (h : HP L W blk cont cp ty) {l : Nat} (hl : blk l = none) (hL : L ≤ W.heap.size) {W' : World} {xs : List Value} {t : Nat} (ht : ty l = t) (hg : Below W.heap.size W W') {cur : Array Value} (hn : W'.heap[W.heap.size]? = some (.cells cur t (0, 0))) (hx : cur.toList = xs) :
    HP L W' (updF blk l (some W.heap.size)) (updF cont l xs) (updF cp l xs.length) ty := by
  have h' := h.grow hg
  refine ⟨fun l' b' hb' => ?_, fun l1 l2 b h1 h2 => ?_⟩
  · by_cases e : l' = l
    · subst e
      rw [updF_same] at hb'
      cases hb'
      refine ⟨hL, cur, by rw [ht]; exact hn, by rw [updF_same, ← hx]; simp, [], by rw [updF_same, hx]; simp⟩
    · rw [updF_ne _ _ e] at hb'
      rw [updF_ne _ _ e, updF_ne _ _ e]
      exact h'.at' l' b' hb'
  · by_cases e1 : l1 = l
    · by_cases e2 : l2 = l
      · rw [e1, e2]
      · subst e1
        rw [updF_same] at h1
        rw [updF_ne _ _ e2] at h2
        cases h1
        have := (h.lt h2).2
        omega
    · rw [updF_ne _ _ e1] at h1
      by_cases e2 : l2 = l
      · subst e2
        rw [updF_same] at h2
        cases h2
        have := (h.lt h1).2
        omega
      · rw [updF_ne _ _ e2] at h2
        exact h.inj l1 l2 b h1 h2

/-- v is the slice over label l: n elements of so many cells. -/
def SlV (blk : Nat → Option Nat) (cont : Nat → List Value) (cp : Nat → Nat) (l size : Nat) (v : Value) (n : Nat) : Prop :=
  (cont l).length = n * size ∧ ((v = .slice none 0 0 ∧ n = 0 ∧ blk l = none) ∨ ∃ b cap, v = .slice (some ⟨b, 0, none⟩) n cap ∧ blk l = some b ∧ n ≤ cap ∧ cap ≤ maxLen ∧ cp l = cap * size)
theorem SlV.owns (h : HP L W blk cont cp ty) {l size n : Nat} {v : Value} (hs : SlV blk cont cp l size v n) : W.ownsRow L (ty l) size v n (cont l) := by
  refine ⟨hs.1, ?_⟩
  rcases hs.2 with ⟨h1, h2, _⟩ | ⟨b, cap, h1, h2, h3, h4, h5⟩
  · exact .inl ⟨h1, h2⟩
  · obtain ⟨a1, cur, a2, a3, rest, a4⟩ := h.at' l b h2
    refine .inr ⟨b, cap, cur, h1, a1, a2, h3, h4, a3.trans h5, ?_⟩
    rw [a4, ← hs.1, List.take_left]
theorem SlV.other {l size n l2 : Nat} {v : Value} (hs : SlV blk cont cp l size v n) (h : l ≠ l2) {x : Option Nat} {xs : List Value} {k : Nat} : SlV (updF blk l2 x) (updF cont l2 xs) (updF cp l2 k) l size v n := by
  unfold SlV at *
  rw [updF_ne _ _ h, updF_ne _ _ h, updF_ne _ _ h]
  exact hs
theorem SlV.stored {l size n l2 : Nat} {v : Value} (hs : SlV blk cont cp l size v n) {xs : List Value} (hx : l = l2 → xs.length = (cont l).length) : SlV blk (updF cont l2 xs) cp l size v n := by
  unfold SlV at *
  by_cases h : l = l2
  · subst h
    rw [updF_same, hx rfl]
    exact hs
  · rw [updF_ne _ _ h]
    exact hs
/-- append. -/
theorem HP.append (h : HP L W blk cont cp ty) {l size n m : Nat} {v v' : Value} (hs : SlV blk cont cp l size v n) {W' : World} {news : List Value} (hm : 0 < m) (hL : L ≤ W.heap.size)
    (ho : W'.ownsRow L (ty l) size v' (n + m) (cont l ++ news)) (hg : W.grownBy W' v.ownBlock) (hat : v'.ownBlock = v.ownBlock ∨ v'.ownBlock = some W.heap.size) :
    Below L W W' ∧ ∃ b' k, HP L W' (updF blk l (some b')) (updF cont l (cont l ++ news)) (updF cp l k) ty ∧ SlV (updF blk l (some b')) (updF cont l (cont l ++ news)) (updF cp l k) l size v' (n + m) := by
  have hvb : ∀ g, v.ownBlock = some g → blk l = some g := by
    intro g e
    rcases hs.2 with ⟨h1, _, _⟩ | ⟨b, cap, h1, h2, _⟩
    · rw [h1] at e
      cases e
    · rw [h1] at e
      rw [h2]
      exact e
  have hvb2 : ∀ g, v.ownBlock = some g → L ≤ g := fun g e => (h.lt (hvb g e)).1
  refine ⟨(Below.refl _ _).grown hg hL hvb2, ?_⟩
  rcases ho.2 with ⟨_, h0⟩ | ⟨b', cap, cur, e1, e2, e3, e4, e5, e6, e7⟩
  · omega
  have hob : v'.ownBlock = some b' := by rw [e1]; rfl
  have hne : ∀ l2, l2 ≠ l → ∀ b2, blk l2 = some b2 → some b2 ≠ v.ownBlock ∧ b2 ≠ b' := by
    intro l2 hl2 b2 hb2
    have a : some b2 ≠ v.ownBlock := fun e => hl2 (h.inj l2 l b2 hb2 (hvb b2 e.symm))
    refine ⟨a, fun e => ?_⟩
    rcases hat with e9 | e9
    · exact a (by rw [← e9, hob, e])
    · rw [hob] at e9
      have := (h.lt hb2).2
      cases e9
      omega
  refine ⟨b', cap * size, ⟨fun l2 b2 hb2 => ?_, fun l1 l2 b h1 h2 => ?_⟩, ?_⟩
  · by_cases hl : l2 = l
    · subst hl
      rw [updF_same] at hb2
      cases hb2
      rw [updF_same, updF_same]
      refine ⟨e2, cur, e3, e6, cur.toList.drop ((n + m) * size), ?_⟩
      rw [← e7, List.take_append_drop]
    · rw [updF_ne _ _ hl] at hb2
      rw [updF_ne _ _ hl, updF_ne _ _ hl]
      obtain ⟨a1, cur2, a2, a3⟩ := h.at' l2 b2 hb2
      exact ⟨a1, cur2, (hg.block b2 (Array.getElem?_eq_some_iff.1 a2).1 (hne l2 hl b2 hb2).1).trans a2, a3⟩
  · by_cases q1 : l1 = l
    · by_cases q2 : l2 = l
      · rw [q1, q2]
      · subst q1
        rw [updF_same] at h1
        rw [updF_ne _ _ q2] at h2
        cases h1
        exact absurd rfl (hne l2 q2 _ h2).2
    · rw [updF_ne _ _ q1] at h1
      by_cases q2 : l2 = l
      · subst q2
        rw [updF_same] at h2
        cases h2
        exact absurd rfl (hne l1 q1 _ h1).2
      · rw [updF_ne _ _ q2] at h2
        exact h.inj l1 l2 b h1 h2
  · refine ⟨by rw [updF_same]; exact ho.1, .inr ⟨b', cap, e1, by rw [updF_same], e4, e5, by rw [updF_same]⟩⟩
end Go.Proofs.Ybulkcejy
