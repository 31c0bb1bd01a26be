import Derived.Test.YbulkcejyLF
namespace Go.Proofs.Ybulkcejy
open Go.RowKit
set_option linter.unusedVariables false
/-- The rows of has, as far as they are made. -/
structure H1 (L : Nat) (W : World) (n hb i : Nat) (hr : Nat → Nat) (blk : Nat → Option Nat) (cont : Nat → List Value) (cp : Nat → Nat) : Prop where
  hp : HP L W blk cont cp tyG
  LW : L ≤ W.heap.size
  n10 : n ≤ 10
  b3 : blk 3 = some hb
  k3 : cont 3 = (List.range n).map fun u => if u < i then .slice (some ⟨hr u, 0, none⟩) n n else .slice none 0 0
  kh : ∀ u, u < i → blk (50 + u) = some (hr u) ∧ cont (50 + u) = List.replicate n (.bool false)
  no : ∀ l, l ≠ 3 → (l < 50 ∨ 50 + i ≤ l) → blk l = none ∧ cont l = []
theorem H1.start {W : World} {n : Nat} (hn : n ≤ 10) : ∃ blk cont cp, H1 W.heap.size (W.alloc (.cells (madeCells #[.slice none 0 0] n) 27)) n W.heap.size 0 (fun _ => 0) blk cont cp := by
  have h := (HP.none W.heap.size W tyG).made (l := 3) rfl (Nat.le_refl _) (t := 27) rfl (W' := W.alloc (.cells (madeCells #[.slice none 0 0] n) 27)) ((Below.refl _ _).alloc (Nat.le_refl _) _) (World.alloc_heap_new _ _) (made_list _ _)
  refine ⟨_, _, _, h, by simp, hn, updF_same _ _ _, ?_, fun u hu => absurd hu (by omega), fun l h1 _ => ⟨updF_ne _ _ h1, updF_ne _ _ h1⟩⟩
  rw [updF_same]
  simp [List.map_const']
theorem H1.step {L : Nat} {W : World} {n hb i : Nat} {hr : Nat → Nat} {blk : Nat → Option Nat} {cont : Nat → List Value} {cp : Nat → Nat} (h : H1 L W n hb i hr blk cont cp) (hi : i < n) :
    (∃ blk' cont' cp', H1 L ((W.setCell ⟨hb, i, none⟩ (.slice (some ⟨W.heap.size, 0, none⟩) n n)).alloc (.cells (madeCells #[.bool false] n) 4)) n hb (i + 1) (updF hr i W.heap.size) blk' cont' cp') ∧ Below L W ((W.setCell ⟨hb, i, none⟩ (.slice (some ⟨W.heap.size, 0, none⟩) n n)).alloc (.cells (madeCells #[.bool false] n) 4)) := by
  have hn := h.n10
  have hs := h.hp.store h.b3 (i := i) (by rw [h.k3]; simpa using hi) (.slice (some ⟨W.heap.size, 0, none⟩) n n)
  rw [h.k3] at hs
  have hsz : (W.setCell ⟨hb, i, none⟩ (.slice (some ⟨W.heap.size, 0, none⟩) n n)).heap.size = W.heap.size := by simp
  have hm := hs.made (l := 50 + i) (h.no (50 + i) (by omega) (.inr (Nat.le_refl _))).1 (by rw [hsz]; exact h.LW) (t := 4) (tyG_has i) (W' := (W.setCell ⟨hb, i, none⟩ (.slice (some ⟨W.heap.size, 0, none⟩) n n)).alloc (.cells (madeCells #[.bool false] n) 4)) ((Below.refl _ _).alloc (Nat.le_refl _) _) (World.alloc_heap_new _ _) (made_list _ _)
  rw [hsz] at hm
  refine ⟨⟨_, _, _, hm, by simp; exact Nat.le_succ_of_le h.LW, hn, by rw [updF_ne _ _ (by omega)]; exact h.b3, ?_, fun u hu => ?_, fun l h1 h2 => ?_⟩, (h.hp.storeBelow h.b3 i _).trans ((Below.refl _ _).alloc (by rw [hsz]; exact h.LW) _)⟩
  · rw [updF_ne _ _ (by omega), updF_same]
    refine set_range hi _ _ _ ?_ (fun w hw hne => ?_)
    · rw [if_pos (by omega), updF_same]
    · by_cases q : w < i
      · rw [if_pos (by omega), if_pos q, updF_ne _ _ hne]
      · rw [if_neg (by omega), if_neg q]
  · by_cases e : u = i
    · subst e
      rw [updF_same, updF_same, updF_same]
      exact ⟨rfl, rfl⟩
    · rw [updF_ne _ _ (by omega), updF_ne _ _ (by omega), updF_ne _ _ (by omega), updF_ne _ _ (by omega)]
      exact h.kh u (by omega)
  · rw [updF_ne _ _ (by omega), updF_ne _ _ (by omega), updF_ne _ _ (by omega)]
    exact h.no l h1 (by omega)
/-- The graph, new. -/
structure NewG (W W' : World) (n : Nat) (f1 : Value) (gb ub bb fb : Nat) : Prop where
  bel : Below W.heap.size W W'
  h0 : W'.heap[gb]? = some (.cells #[.slice (some ⟨ub, 0, none⟩) n n, f1, .slice none 0 0, .slice (some ⟨bb, 0, none⟩) n n, .slice (some ⟨fb, 0, none⟩) n n, .slice none 0 0] 34)
  h1 : W'.heap[bb]? = some (.cells (madeCells #[.slice none 0 0] n) 37)
  h2 : W'.heap[fb]? = some (.cells (madeCells #[.slice none 0 0] n) 37)
  ge : W.heap.size ≤ gb ∧ W.heap.size ≤ bb ∧ W.heap.size ≤ fb
  ne : gb ≠ bb ∧ gb ≠ fb ∧ bb ≠ fb
theorem NewG.lf {L : Nat} {W W' : World} {n hb : Nat} {f1 : Value} {gb ub bb fb : Nat} {hr : Nat → Nat} {blk : Nat → Option Nat} {cont : Nat → List Value} {cp : Nat → Nat} (g : NewG W W' n f1 gb ub bb fb) (h : H1 L W n hb n hr blk cont cp) :
    ∃ blk' cont' cp', LF L W' { n := n, gb := gb, bb := bb, fb := fb, hb := hb, ua := some ⟨ub, 0, none⟩, uc := n, f1 := f1, tv := .slice none 0 0, bv := fun _ => .slice none 0 0, fv := fun _ => .slice none 0 0, hr := hr } [] [] [] [] blk' cont' cp' := by
  have hn := h.n10
  obtain ⟨g0, g1, g2⟩ := g.ge
  obtain ⟨e1, e2, e3⟩ := g.ne
  have hLW := h.LW
  have p0 := h.hp.grow g.bel
  have fr : ∀ b, W.heap.size ≤ b → ∀ l', blk l' ≠ some b := fun b hb l' e => by have := (h.hp.lt e).2; omega
  have p1 := p0.add (l := 0) (b := gb) (by omega) (fr gb g0) (t := 34) rfl g.h0 rfl
  have p2 := p1.add (l := 1) (b := bb) (by omega) (fun l' e => by
    by_cases q : l' = 0
    · subst q; rw [updF_same] at e; cases e; exact e1 rfl
    · rw [updF_ne _ _ q] at e; exact fr bb g1 l' e) (t := 37) rfl g.h1 (made_list _ _)
  have p3 := p2.add (l := 2) (b := fb) (by omega) (fun l' e => by
    by_cases q1 : l' = 1
    · subst q1; rw [updF_same] at e; cases e; exact e3 rfl
    · rw [updF_ne _ _ q1] at e
      by_cases q : l' = 0
      · subst q; rw [updF_same] at e; cases e; exact e2 rfl
      · rw [updF_ne _ _ q] at e; exact fr fb g2 l' e) (t := 37) rfl g.h2 (made_list _ _)
  have nb : ∀ {l : Nat}, 3 ≤ l → updF (updF (updF blk 0 (some gb)) 1 (some bb)) 2 (some fb) l = blk l := fun h1 => by rw [updF_ne _ _ (by omega), updF_ne _ _ (by omega), updF_ne _ _ (by omega)]
  refine ⟨_, _, _, p3, Nat.le_trans h.LW g.bel.size, hn, ?_, ?_, updF_same _ _ _, (nb (by omega)).trans h.b3, ?_, ?_, ?_, ?_, ⟨?_, .inl ⟨rfl, rfl, ?_⟩⟩, ?_, fun u hu => ⟨⟨?_, .inl ⟨rfl, rfl, ?_⟩⟩, ?_⟩, fun u hu => ⟨⟨?_, .inl ⟨rfl, rfl, ?_⟩⟩, ?_⟩, fun u hu => ⟨?_, ?_⟩⟩
  · rw [updF_ne _ _ (by omega), updF_ne _ _ (by omega), updF_same]
  · rw [updF_ne _ _ (by omega), updF_same]
  · rw [updF_ne _ _ (by omega), updF_ne _ _ (by omega), updF_same]
    rfl
  · rw [updF_ne _ _ (by omega), updF_same]
    simp [List.map_const']
  · rw [updF_same]
    simp [List.map_const']
  · rw [updF_ne _ _ (by omega), updF_ne _ _ (by omega), updF_ne _ _ (by omega), h.k3]
    apply List.map_congr_left
    intro u hu
    rw [if_pos (List.mem_range.1 hu)]
  · rw [updF_ne _ _ (by omega), updF_ne _ _ (by omega), updF_ne _ _ (by omega), (h.no 4 (by omega) (by omega)).2]
    rfl
  · rw [nb (by omega)]
    exact (h.no 4 (by omega) (by omega)).1
  · rw [updF_ne _ _ (by omega), updF_ne _ _ (by omega), updF_ne _ _ (by omega), (h.no 4 (by omega) (by omega)).2]
    rfl
  · have hu' : u < n := hu
    rw [updF_ne _ _ (by omega), updF_ne _ _ (by omega), updF_ne _ _ (by omega), (h.no (10 + u) (by omega) (by omega)).2]
    rfl
  · have hu' : u < n := hu
    rw [nb (by omega)]
    exact (h.no (10 + u) (by omega) (by omega)).1
  · have hu' : u < n := hu
    rw [updF_ne _ _ (by omega), updF_ne _ _ (by omega), updF_ne _ _ (by omega), (h.no (10 + u) (by omega) (by omega)).2]
    rfl
  · have hu' : u < n := hu
    rw [updF_ne _ _ (by omega), updF_ne _ _ (by omega), updF_ne _ _ (by omega), (h.no (30 + u) (by omega) (by omega)).2]
    rfl
  · have hu' : u < n := hu
    rw [nb (by omega)]
    exact (h.no (30 + u) (by omega) (by omega)).1
  · have hu' : u < n := hu
    rw [updF_ne _ _ (by omega), updF_ne _ _ (by omega), updF_ne _ _ (by omega), (h.no (30 + u) (by omega) (by omega)).2]
    rfl
  · have hu' : u < n := hu
    rw [nb (by omega)]
    exact (h.kh u hu').1
  · have hu' : u < n := hu
    rw [updF_ne _ _ (by omega), updF_ne _ _ (by omega), updF_ne _ _ (by omega), (h.kh u hu').2]
    simp [hasB, List.map_const']
end Go.Proofs.Ybulkcejy
