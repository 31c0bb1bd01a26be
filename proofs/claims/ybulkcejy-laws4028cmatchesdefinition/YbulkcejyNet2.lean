import Derived.Test.YbulkcejyNet
namespace Go.Proofs.Ybulkcejy
open Go.RowKit

theorem HP.shrink {L : Nat} {W : World} {blk : Nat → Option Nat} {cont : Nat → List Value} {cp ty : Nat → Nat} (h : HP L W blk cont cp ty) {l : Nat} {xs ys : List Value} (e : cont l = xs ++ ys) : HP L W blk (updF cont l xs) cp ty := by
  refine ⟨fun l' b' hb' => ?_, h.inj⟩
  obtain ⟨h1, cur, h2, h3, rest, h4⟩ := h.at' l' b' hb'
  by_cases hl : l' = l
  · subst hl
    exact ⟨h1, cur, h2, h3, ys ++ rest, by rw [updF_same, h4, e, List.append_assoc]⟩
  · exact ⟨h1, cur, h2, h3, rest, by rw [updF_ne _ _ hl]; exact h4⟩
/-- v[:0]. -/
def cut0 : Value → Value
  | .slice a _ c => .slice a 0 c
  | v => v
theorem SlV.cut {blk : Nat → Option Nat} {cont : Nat → List Value} {cp : Nat → Nat} {l size n : Nat} {v : Value} (h : SlV blk cont cp l size v n) : SlV blk (updF cont l []) cp l size (cut0 v) 0 := by
  refine ⟨by rw [updF_same]; simp, ?_⟩
  rcases h.2 with ⟨h1, h2, h3⟩ | ⟨b, cap, h1, h2, h3, h4, h5⟩
  · exact .inl ⟨by rw [h1]; rfl, rfl, h3⟩
  · exact .inr ⟨b, cap, by rw [h1]; rfl, h2, Nat.zero_le _, h4, h5⟩
theorem ks_app {c : Net} {blk : Nat → Option Nat} {cont : Nat → List Value} {cp : Nat → Nat} {l2 : Nat} {xs : List Value} {x : Option Nat} {k : Nat} (hl : l2 < 10) (h : ∀ u, u < c.N → SlV blk cont cp (10 + u) 1 (c.ov u) (c.og u).length ∧ cont (10 + u) = (c.og u).map nv) : ∀ u, u < c.N → SlV (updF blk l2 x) (updF cont l2 xs) (updF cp l2 k) (10 + u) 1 (c.ov u) (c.og u).length ∧ updF cont l2 xs (10 + u) = (c.og u).map nv := by
  intro u hu
  have hne : 10 + u ≠ l2 := by omega
  exact ⟨(h u hu).1.other hne, by rw [updF_ne _ _ hne]; exact (h u hu).2⟩

variable {L : Nat} {W : World} {B : Nat → Nat} {c : Net} {v : NV} {rv cv : Value} {blk : Nat → Option Nat} {cont : Nat → List Value} {cp : Nat → Nat}
theorem flat_append (xs ys : List (Nat × Int)) : flat (xs ++ ys) = flat xs ++ flat ys := by simp [flat]

theorem NF.ownsC (h : NF L W B c v rv cv blk cont cp) : W.ownsRow L 57 2 cv v.changed.length (flat v.changed) := by
  have := h.s8.owns h.hp
  rw [h.k8] at this
  exact this
theorem NF.ownsR (h : NF L W B c v rv cv blk cont cp) : W.ownsRow L 3 1 rv v.reached.length (v.reached.map nv) := by
  have := h.s7.owns h.hp
  rw [h.k7] at this
  exact this
theorem NF.ownsR0 (h : NF L W B c v rv cv blk cont cp) : W.ownsRow L 3 1 (cut0 rv) 0 [] := by
  have := h.s7.cut.owns (h.hp.shrink (l := 7) (xs := []) (ys := cont 7) rfl)
  rw [updF_same] at this
  exact this

/-- changed = append(changed, news...). -/
theorem NF.pushC (h : NF L W B c v rv cv blk cont cp) {W' : World} {cv' : Value} {news : List (Nat × Int)} (hm : 0 < news.length)
    (ho : W'.ownsRow L 57 2 cv' (v.changed.length + news.length) (flat v.changed ++ flat news)) (hg : W.grownBy W' cv.ownBlock) (hat : cv'.ownBlock = cv.ownBlock ∨ cv'.ownBlock = some W.heap.size) :
    (∃ blk' cont' cp', NF L (W'.setCell ⟨B 0, 10, none⟩ cv') B c { v with changed := v.changed ++ news } rv cv' blk' cont' cp') ∧ Below L W (W'.setCell ⟨B 0, 10, none⟩ cv') := by
  obtain ⟨hb, b', k, hp, hs⟩ := h.hp.append h.s8 (m := news.length) (news := flat news) hm h.LW (by rw [h.k8]; exact ho) hg hat
  have hb0 : updF blk 8 (some b') 0 = some (B 0) := by rw [updF_ne _ _ (by omega)]; exact h.bl 0 (by omega)
  have e0 : updF cont 8 (cont 8 ++ flat news) 0 = netC B c v rv cv := by rw [updF_ne _ _ (by omega)]; exact h.k0
  have hs2 := hp.store hb0 (i := 10) (by rw [e0]; simp [netC]) cv'
  rw [e0] at hs2
  have n0 : ∀ {l : Nat}, l ≠ 0 → l ≠ 8 → updF (updF cont 8 (cont 8 ++ flat news)) 0 ((netC B c v rv cv).set 10 cv') l = cont l := fun h1 h2 => by rw [updF_ne _ _ h1, updF_ne _ _ h2]
  have n8 : updF (updF cont 8 (cont 8 ++ flat news)) 0 ((netC B c v rv cv).set 10 cv') 8 = cont 8 ++ flat news := by rw [updF_ne _ _ (by omega), updF_same]
  refine ⟨⟨_, _, _, hs2, ?_, ex_stored (by omega) (ex_app (by omega) h.ex), fun l hl => by rw [updF_ne _ _ (by omega)]; exact h.bl l hl, by rw [updF_same]; rfl, (n0 (by omega) (by omega)).trans h.k1, ks_stored (by omega) (ks_app (by omega) h.ks), (n0 (by omega) (by omega)).trans h.k2, h.l2, (n0 (by omega) (by omega)).trans h.k3, h.l3, (n0 (by omega) (by omega)).trans h.k4, h.l4, (n0 (by omega) (by omega)).trans h.k5, h.l5, (n0 (by omega) (by omega)).trans h.k6, h.l6, (h.s7.other (by omega)).stored (fun e => absurd e (by omega)), (n0 (by omega) (by omega)).trans h.k7, ?_, ?_⟩, hb.trans ?_⟩
  · have := hg.size
    have := h.LW
    simp
    omega
  · have e : ({ v with changed := v.changed ++ news } : NV).changed.length = v.changed.length + news.length := List.length_append
    rw [e]
    exact hs.stored (fun e => absurd e (by omega))
  · rw [n8, h.k8, ← flat_append]
  · exact hp.storeBelow hb0 10 cv'
/-- reached = append(reached, x). -/
theorem NF.pushR (h : NF L W B c v rv cv blk cont cp) {W' : World} {rv' : Value} {x : Nat}
    (ho : W'.ownsRow L 3 1 rv' (v.reached.length + 1) (v.reached.map nv ++ [nv x])) (hg : W.grownBy W' rv.ownBlock) (hat : rv'.ownBlock = rv.ownBlock ∨ rv'.ownBlock = some W.heap.size) :
    (∃ blk' cont' cp', NF L (W'.setCell ⟨B 0, 8, none⟩ rv') B c { v with reached := v.reached ++ [x] } rv' cv blk' cont' cp') ∧ Below L W (W'.setCell ⟨B 0, 8, none⟩ rv') := by
  obtain ⟨hb, b', k, hp, hs⟩ := h.hp.append h.s7 (m := 1) (news := [nv x]) (by omega) h.LW (by rw [h.k7]; exact ho) hg hat
  have hb0 : updF blk 7 (some b') 0 = some (B 0) := by rw [updF_ne _ _ (by omega)]; exact h.bl 0 (by omega)
  have e0 : updF cont 7 (cont 7 ++ [nv x]) 0 = netC B c v rv cv := by rw [updF_ne _ _ (by omega)]; exact h.k0
  have hs2 := hp.store hb0 (i := 8) (by rw [e0]; simp [netC]) rv'
  rw [e0] at hs2
  have n0 : ∀ {l : Nat}, l ≠ 0 → l ≠ 7 → updF (updF cont 7 (cont 7 ++ [nv x])) 0 ((netC B c v rv cv).set 8 rv') l = cont l := fun h1 h2 => by rw [updF_ne _ _ h1, updF_ne _ _ h2]
  have n8 : updF (updF cont 7 (cont 7 ++ [nv x])) 0 ((netC B c v rv cv).set 8 rv') 7 = cont 7 ++ [nv x] := by rw [updF_ne _ _ (by omega), updF_same]
  refine ⟨⟨_, _, _, hs2, ?_, ex_stored (by omega) (ex_app (by omega) h.ex), fun l hl => by rw [updF_ne _ _ (by omega)]; exact h.bl l hl, by rw [updF_same]; rfl, (n0 (by omega) (by omega)).trans h.k1, ks_stored (by omega) (ks_app (by omega) h.ks), (n0 (by omega) (by omega)).trans h.k2, h.l2, (n0 (by omega) (by omega)).trans h.k3, h.l3, (n0 (by omega) (by omega)).trans h.k4, h.l4, (n0 (by omega) (by omega)).trans h.k5, h.l5, (n0 (by omega) (by omega)).trans h.k6, h.l6, ?_, ?_, (h.s8.other (by omega)).stored (fun e => absurd e (by omega)), (n0 (by omega) (by omega)).trans h.k8⟩, hb.trans ?_⟩
  · have := hg.size
    have := h.LW
    simp
    omega
  · have e : ({ v with reached := v.reached ++ [x] } : NV).reached.length = v.reached.length + 1 := List.length_append
    rw [e]
    exact hs.stored (fun e => absurd e (by omega))
  · rw [n8, h.k7]
    simp
  · exact hp.storeBelow hb0 8 rv'
/-- reached = append(reached[:0], x). -/
theorem NF.newR (h : NF L W B c v rv cv blk cont cp) {W' : World} {rv' : Value} {x : Nat}
    (ho : W'.ownsRow L 3 1 rv' (0 + 1) ([] ++ [nv x])) (hg : W.grownBy W' (cut0 rv).ownBlock) (hat : rv'.ownBlock = (cut0 rv).ownBlock ∨ rv'.ownBlock = some W.heap.size) :
    (∃ blk' cont' cp', NF L (W'.setCell ⟨B 0, 8, none⟩ rv') B c { v with reached := [x] } rv' cv blk' cont' cp') ∧ Below L W (W'.setCell ⟨B 0, 8, none⟩ rv') := by
  have hp1 := h.hp.shrink (l := 7) (xs := []) (ys := cont 7) rfl
  obtain ⟨hb, b', k, hp, hs⟩ := hp1.append h.s7.cut (m := 1) (news := [nv x]) (by omega) h.LW (by rw [updF_same]; exact ho) hg hat
  rw [updF_same] at hp hs
  have hb0 : updF blk 7 (some b') 0 = some (B 0) := by rw [updF_ne _ _ (by omega)]; exact h.bl 0 (by omega)
  have e0 : updF (updF cont 7 []) 7 ([] ++ [nv x]) 0 = netC B c v rv cv := by rw [updF_ne _ _ (by omega), updF_ne _ _ (by omega)]; exact h.k0
  have hs2 := hp.store hb0 (i := 8) (by rw [e0]; simp [netC]) rv'
  rw [e0] at hs2
  have n0 : ∀ {l : Nat}, l ≠ 0 → l ≠ 7 → updF (updF (updF cont 7 []) 7 ([] ++ [nv x])) 0 ((netC B c v rv cv).set 8 rv') l = cont l := fun h1 h2 => by rw [updF_ne _ _ h1, updF_ne _ _ h2, updF_ne _ _ h2]
  have n8 : updF (updF (updF cont 7 []) 7 ([] ++ [nv x])) 0 ((netC B c v rv cv).set 8 rv') 7 = [] ++ [nv x] := by rw [updF_ne _ _ (by omega), updF_same]
  refine ⟨⟨_, _, _, hs2, ?_, ex_stored (by omega) (ex_app (by omega) (ex_stored (by omega) h.ex)), fun l hl => by rw [updF_ne _ _ (by omega)]; exact h.bl l hl, by rw [updF_same]; rfl, (n0 (by omega) (by omega)).trans h.k1, ks_stored (by omega) (ks_app (by omega) (ks_stored (by omega) h.ks)), (n0 (by omega) (by omega)).trans h.k2, h.l2, (n0 (by omega) (by omega)).trans h.k3, h.l3, (n0 (by omega) (by omega)).trans h.k4, h.l4, (n0 (by omega) (by omega)).trans h.k5, h.l5, (n0 (by omega) (by omega)).trans h.k6, h.l6, ?_, ?_, ((h.s8.stored (fun e => absurd e (by omega))).other (by omega)).stored (fun e => absurd e (by omega)), (n0 (by omega) (by omega)).trans h.k8⟩, hb.trans ?_⟩
  · have := hg.size
    have := h.LW
    simp
    omega
  · exact hs.stored (fun e => absurd e (by omega))
  · rw [n8]
    rfl
  · exact hp.storeBelow hb0 8 rv'
/-- changed = changed[:0]. -/
theorem NF.cutC (h : NF L W B c v rv cv blk cont cp) : (∃ blk' cont' cp', NF L (W.setCell ⟨B 0, 10, none⟩ (cut0 cv)) B c { v with changed := [] } rv (cut0 cv) blk' cont' cp') ∧ Below L W (W.setCell ⟨B 0, 10, none⟩ (cut0 cv)) := by
  have hp := h.hp.shrink (l := 8) (xs := []) (ys := cont 8) rfl
  have hb0 := h.bl 0 (by omega)
  have e0 : updF cont 8 [] 0 = netC B c v rv cv := by rw [updF_ne _ _ (by omega)]; exact h.k0
  have hs2 := hp.store hb0 (i := 10) (by rw [e0]; simp [netC]) (cut0 cv)
  rw [e0] at hs2
  have n0 : ∀ {l : Nat}, l ≠ 0 → l ≠ 8 → updF (updF cont 8 []) 0 ((netC B c v rv cv).set 10 (cut0 cv)) l = cont l := fun h1 h2 => by rw [updF_ne _ _ h1, updF_ne _ _ h2]
  refine ⟨⟨_, _, _, hs2, by simpa using h.LW, ex_stored (by omega) (ex_stored (by omega) h.ex), h.bl, by rw [updF_same]; rfl, (n0 (by omega) (by omega)).trans h.k1, ks_stored (by omega) (ks_stored (by omega) h.ks), (n0 (by omega) (by omega)).trans h.k2, h.l2, (n0 (by omega) (by omega)).trans h.k3, h.l3, (n0 (by omega) (by omega)).trans h.k4, h.l4, (n0 (by omega) (by omega)).trans h.k5, h.l5, (n0 (by omega) (by omega)).trans h.k6, h.l6, (h.s7.stored (fun e => absurd e (by omega))).stored (fun e => absurd e (by omega)), (n0 (by omega) (by omega)).trans h.k7, h.s8.cut.stored (fun e => absurd e (by omega)), ?_⟩, hp.storeBelow hb0 10 _⟩
  rw [updF_ne _ _ (by omega), updF_same]
  rfl
end Go.Proofs.Ybulkcejy
