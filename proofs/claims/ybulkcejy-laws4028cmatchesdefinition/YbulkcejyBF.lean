import Derived.Test.YbulkcejyBack
namespace Go.Proofs.Ybulkcejy
open Go.RowKit
set_option linter.unusedVariables false

/-- The network while it is built. -/
structure BD where
  N : Nat
  b0 : Nat
  b1 : Nat
  b4 : Nat
  b5 : Nat
  b6 : Nat
  sink : Int
  unb : Int
  tv : Value
  rv : Value
  ov : Nat → Value
  og : Nat → List Nat
  to : List Nat
  room : List Int
  xb : Nat → Option Nat
  xc : Nat → List Value
  xp : Nat → Nat
def bC (d : BD) : List Value := [.slice (some ⟨d.b1, 0, none⟩) d.N d.N, d.tv, d.rv, iv d.sink, iv d.unb, .slice (some ⟨d.b4, 0, none⟩) d.N d.N, .slice (some ⟨d.b5, 0, none⟩) d.N d.N, iv 0, .slice none 0 0, .slice (some ⟨d.b6, 0, none⟩) d.N d.N, .slice none 0 0]
structure BF (L : Nat) (W : World) (d : BD) (blk : Nat → Option Nat) (cont : Nat → List Value) (cp : Nat → Nat) : Prop where
  hp : HP L W blk cont cp tyF
  LW : L ≤ W.heap.size
  ex : ∀ l, 1000 ≤ l → blk l = d.xb l ∧ cont l = d.xc l ∧ cp l = d.xp l
  hN : d.N ≤ 100
  b0 : blk 0 = some d.b0
  b1 : blk 1 = some d.b1
  b4 : blk 4 = some d.b4
  b5 : blk 5 = some d.b5
  b6 : blk 6 = some d.b6
  k0 : cont 0 = bC d
  k1 : cont 1 = (List.range d.N).map d.ov
  ks : ∀ u, u < d.N → SlV blk cont cp (10 + u) 1 (d.ov u) (d.og u).length ∧ cont (10 + u) = (d.og u).map nv
  s2 : SlV blk cont cp 2 1 d.tv d.to.length
  k2 : cont 2 = d.to.map nv
  s3 : SlV blk cont cp 3 1 d.rv d.room.length
  k3 : cont 3 = d.room.map iv
  k4 : cont 4 = (List.replicate d.N (0 : Int)).map iv
  k5 : cont 5 = (List.replicate d.N (0 : Int)).map iv
  k6 : cont 6 = (List.replicate d.N (0 : Int)).map iv
  s7 : SlV blk cont cp 7 1 (.slice none 0 0) 0
  k7 : cont 7 = []
  s8 : SlV blk cont cp 8 2 (.slice none 0 0) 0
  k8 : cont 8 = []
variable {L : Nat} {W : World} {d : BD} {blk : Nat → Option Nat} {cont : Nat → List Value} {cp : Nat → Nat}
theorem SlV.ne {ty : Nat → Nat} (hp : HP L W blk cont cp ty) {l l' size n b : Nat} {v : Value} (hs : SlV blk cont cp l' size v n) (hb : blk l = some b) (hne : l ≠ l') : some b ≠ v.ownBlock := by
  rcases hs.2 with ⟨e, _, _⟩ | ⟨b', cap, e, hb', _⟩
  · rw [e]
    intro q
    cases q
  · rw [e]
    intro q
    have q2 : b = b' := Option.some.inj q
    exact hne (hp.inj l l' b hb (by rw [q2]; exact hb'))
theorem SlV.form {l size n : Nat} {v : Value} (hs : SlV blk cont cp l size v n) : ∃ a c, v = .slice a n c := by
  rcases hs.2 with ⟨e, e2, _⟩ | ⟨b', cap, e, _⟩
  · exact ⟨none, 0, by rw [e, e2]⟩
  · exact ⟨_, _, e⟩
theorem BF.field (h : BF L W d blk cont cp) {i : Nat} {x : Value} (hx : (bC d)[i]? = some x) : W.cell? ⟨d.b0, i, none⟩ = some x := h.hp.read h.b0 (by rw [h.k0]; exact hx)
theorem BF.outv (h : BF L W d blk cont cp) {u : Nat} (hu : u < d.N) : W.cell? ⟨d.b1, u, none⟩ = some (d.ov u) := h.hp.read h.b1 (by rw [h.k1]; simp [hu])
theorem BF.grow (h : BF L W d blk cont cp) {W' : World} (hb : Below W.heap.size W W') : BF L W' d blk cont cp :=
  { h with hp := h.hp.grow hb, LW := Nat.le_trans h.LW hb.size }
theorem bex_app {l2 : Nat} {xs : List Value} {x : Option Nat} {k : Nat} (hl : l2 < 1000) (h : ∀ l, 1000 ≤ l → blk l = d.xb l ∧ cont l = d.xc l ∧ cp l = d.xp l) : ∀ l, 1000 ≤ l → updF blk l2 x l = d.xb l ∧ updF cont l2 xs l = d.xc l ∧ updF cp l2 k l = d.xp l := fun l h1 => by
  rw [updF_ne _ _ (by omega), updF_ne _ _ (by omega), updF_ne _ _ (by omega)]
  exact h l h1
theorem bex_stored {l2 : Nat} {xs : List Value} (hl : l2 < 1000) (h : ∀ l, 1000 ≤ l → blk l = d.xb l ∧ cont l = d.xc l ∧ cp l = d.xp l) : ∀ l, 1000 ≤ l → blk l = d.xb l ∧ updF cont l2 xs l = d.xc l ∧ cp l = d.xp l := fun l h1 => by
  rw [updF_ne _ _ (by omega)]
  exact h l h1
theorem bks_stored {l2 : Nat} {xs : List Value} (hl : l2 < 10) (h : ∀ u, u < d.N → SlV blk cont cp (10 + u) 1 (d.ov u) (d.og u).length ∧ cont (10 + u) = (d.og u).map nv) : ∀ u, u < d.N → SlV blk (updF cont l2 xs) cp (10 + u) 1 (d.ov u) (d.og u).length ∧ updF cont l2 xs (10 + u) = (d.og u).map nv := by
  intro u hu
  have hne : 10 + u ≠ l2 := by omega
  exact ⟨(h u hu).1.stored (fun e => absurd e hne), by rw [updF_ne _ _ hne]; exact (h u hu).2⟩
theorem bks_app {l2 : Nat} {xs : List Value} {x : Option Nat} {k : Nat} (hl : l2 < 10) (h : ∀ u, u < d.N → SlV blk cont cp (10 + u) 1 (d.ov u) (d.og u).length ∧ cont (10 + u) = (d.og u).map nv) : ∀ u, u < d.N → SlV (updF blk l2 x) (updF cont l2 xs) (updF cp l2 k) (10 + u) 1 (d.ov u) (d.og u).length ∧ updF cont l2 xs (10 + u) = (d.og u).map nv := by
  intro u hu
  have hne : 10 + u ≠ l2 := by omega
  exact ⟨(h u hu).1.other hne, by rw [updF_ne _ _ hne]; exact (h u hu).2⟩
/-- to = append(to, x). -/
theorem BF.pushTo (h : BF L W d blk cont cp) {W' : World} {tv' : Value} {x : Nat}
    (ho : W'.ownsRow L 3 1 tv' (d.to.length + 1) (d.to.map nv ++ [nv x])) (hg : W.grownBy W' d.tv.ownBlock) (hat : tv'.ownBlock = d.tv.ownBlock ∨ tv'.ownBlock = some W.heap.size) :
    (∃ blk' cont' cp', BF L (W'.setCell ⟨d.b0, 1, none⟩ tv') { d with tv := tv', to := d.to ++ [x] } blk' cont' cp') ∧ Below L W (W'.setCell ⟨d.b0, 1, none⟩ tv') := by
  obtain ⟨hb, b', k, hp, hs⟩ := h.hp.append h.s2 (m := 1) (news := [nv x]) (by omega) h.LW (by rw [h.k2]; exact ho) hg hat
  have nb : ∀ {l : Nat}, l ≠ 2 → updF blk 2 (some b') l = blk l := fun h1 => updF_ne _ _ h1
  have hb0 := (nb (l := 0) (by omega)).trans h.b0
  have e0 : updF cont 2 (cont 2 ++ [nv x]) 0 = bC d := by rw [updF_ne _ _ (by omega)]; exact h.k0
  have hs2 := hp.store hb0 (i := 1) (by rw [e0]; simp [bC]) tv'
  rw [e0] at hs2
  have n0 : ∀ {l : Nat}, l ≠ 0 → l ≠ 2 → updF (updF cont 2 (cont 2 ++ [nv x])) 0 ((bC d).set 1 tv') l = cont l := fun h1 h2 => by rw [updF_ne _ _ h1, updF_ne _ _ h2]
  have n2 : updF (updF cont 2 (cont 2 ++ [nv x])) 0 ((bC d).set 1 tv') 2 = cont 2 ++ [nv x] := by rw [updF_ne _ _ (by omega), updF_same]
  refine ⟨⟨_, _, _, hs2, ?_, bex_stored (by omega) (bex_app (by omega) h.ex), h.hN, hb0, (nb (by omega)).trans h.b1, (nb (by omega)).trans h.b4, (nb (by omega)).trans h.b5, (nb (by omega)).trans h.b6, by rw [updF_same]; rfl, (n0 (by omega) (by omega)).trans h.k1, bks_stored (by omega) (bks_app (by omega) h.ks), ?_, ?_, (h.s3.other (by omega)).stored (fun e => absurd e (by omega)), (n0 (by omega) (by omega)).trans h.k3, (n0 (by omega) (by omega)).trans h.k4, (n0 (by omega) (by omega)).trans h.k5, (n0 (by omega) (by omega)).trans h.k6, (h.s7.other (by omega)).stored (fun e => absurd e (by omega)), (n0 (by omega) (by omega)).trans h.k7, (h.s8.other (by omega)).stored (fun e => absurd e (by omega)), (n0 (by omega) (by omega)).trans h.k8⟩, hb.trans ?_⟩
  · have := hg.size
    have := h.LW
    simp
    omega
  · have e : (d.to ++ [x]).length = d.to.length + 1 := List.length_append
    show SlV _ _ _ 2 1 tv' (d.to ++ [x]).length
    rw [e]
    exact hs.stored (fun e => absurd e (by omega))
  · rw [n2, h.k2]
    simp
  · exact hp.storeBelow hb0 1 tv'
/-- room = append(room, x). -/
theorem BF.pushRoom (h : BF L W d blk cont cp) {W' : World} {tv' : Value} {x : Int}
    (ho : W'.ownsRow L 3 1 tv' (d.room.length + 1) (d.room.map iv ++ [iv x])) (hg : W.grownBy W' d.rv.ownBlock) (hat : tv'.ownBlock = d.rv.ownBlock ∨ tv'.ownBlock = some W.heap.size) :
    (∃ blk' cont' cp', BF L (W'.setCell ⟨d.b0, 2, none⟩ tv') { d with rv := tv', room := d.room ++ [x] } blk' cont' cp') ∧ Below L W (W'.setCell ⟨d.b0, 2, none⟩ tv') := by
  obtain ⟨hb, b', k, hp, hs⟩ := h.hp.append h.s3 (m := 1) (news := [iv x]) (by omega) h.LW (by rw [h.k3]; exact ho) hg hat
  have nb : ∀ {l : Nat}, l ≠ 3 → updF blk 3 (some b') l = blk l := fun h1 => updF_ne _ _ h1
  have hb0 := (nb (l := 0) (by omega)).trans h.b0
  have e0 : updF cont 3 (cont 3 ++ [iv x]) 0 = bC d := by rw [updF_ne _ _ (by omega)]; exact h.k0
  have hs2 := hp.store hb0 (i := 2) (by rw [e0]; simp [bC]) tv'
  rw [e0] at hs2
  have n0 : ∀ {l : Nat}, l ≠ 0 → l ≠ 3 → updF (updF cont 3 (cont 3 ++ [iv x])) 0 ((bC d).set 2 tv') l = cont l := fun h1 h2 => by rw [updF_ne _ _ h1, updF_ne _ _ h2]
  have n2 : updF (updF cont 3 (cont 3 ++ [iv x])) 0 ((bC d).set 2 tv') 3 = cont 3 ++ [iv x] := by rw [updF_ne _ _ (by omega), updF_same]
  refine ⟨⟨_, _, _, hs2, ?_, bex_stored (by omega) (bex_app (by omega) h.ex), h.hN, hb0, (nb (by omega)).trans h.b1, (nb (by omega)).trans h.b4, (nb (by omega)).trans h.b5, (nb (by omega)).trans h.b6, by rw [updF_same]; rfl, (n0 (by omega) (by omega)).trans h.k1, bks_stored (by omega) (bks_app (by omega) h.ks), (h.s2.other (by omega)).stored (fun e => absurd e (by omega)), (n0 (by omega) (by omega)).trans h.k2, ?_, ?_, (n0 (by omega) (by omega)).trans h.k4, (n0 (by omega) (by omega)).trans h.k5, (n0 (by omega) (by omega)).trans h.k6, (h.s7.other (by omega)).stored (fun e => absurd e (by omega)), (n0 (by omega) (by omega)).trans h.k7, (h.s8.other (by omega)).stored (fun e => absurd e (by omega)), (n0 (by omega) (by omega)).trans h.k8⟩, hb.trans ?_⟩
  · have := hg.size
    have := h.LW
    simp
    omega
  · have e : (d.room ++ [x]).length = d.room.length + 1 := List.length_append
    show SlV _ _ _ 3 1 tv' (d.room ++ [x]).length
    rw [e]
    exact hs.stored (fun e => absurd e (by omega))
  · rw [n2, h.k3]
    simp
  · exact hp.storeBelow hb0 2 tv'
/-- out[u] = append(out[u], x). -/
theorem BF.pushOut (h : BF L W d blk cont cp) {u : Nat} (hu : u < d.N) {W' : World} {tv' : Value} {x : Nat}
    (ho : W'.ownsRow L 3 1 tv' ((d.og u).length + 1) ((d.og u).map nv ++ [nv x])) (hg : W.grownBy W' (d.ov u).ownBlock) (hat : tv'.ownBlock = (d.ov u).ownBlock ∨ tv'.ownBlock = some W.heap.size) :
    (∃ blk' cont' cp', BF L (W'.setCell ⟨d.b1, u, none⟩ tv') { d with ov := updF d.ov u tv', og := updF d.og u (d.og u ++ [x]) } blk' cont' cp') ∧ Below L W (W'.setCell ⟨d.b1, u, none⟩ tv') := by
  have hN := h.hN
  obtain ⟨q1, q2⟩ := h.ks u hu
  have hty : tyF (10 + u) = 3 := by unfold tyF; rw [if_neg (by omega), if_neg (by omega), if_neg (by omega), if_neg (by omega)]
  obtain ⟨hb, b', k, hp, hs⟩ := h.hp.append q1 (m := 1) (news := [nv x]) (by omega) h.LW (by rw [q2, hty]; exact ho) hg hat
  have nb : ∀ {l : Nat}, l < 10 → updF blk (10 + u) (some b') l = blk l := fun h1 => updF_ne _ _ (by omega)
  have hb1 := (nb (l := 1) (by omega)).trans h.b1
  have e0 : updF cont (10 + u) (cont (10 + u) ++ [nv x]) 1 = (List.range d.N).map d.ov := by rw [updF_ne _ _ (by omega)]; exact h.k1
  have hs2 := hp.store hb1 (i := u) (by rw [e0]; simpa using hu) tv'
  rw [e0] at hs2
  have n0 : ∀ {l : Nat}, l ≠ 1 → l < 10 → updF (updF cont (10 + u) (cont (10 + u) ++ [nv x])) 1 (((List.range d.N).map d.ov).set u tv') l = cont l := fun h1 h2 => by rw [updF_ne _ _ h1, updF_ne _ _ (by omega)]
  have n2 : updF (updF cont (10 + u) (cont (10 + u) ++ [nv x])) 1 (((List.range d.N).map d.ov).set u tv') (10 + u) = cont (10 + u) ++ [nv x] := by rw [updF_ne _ _ (by omega), updF_same]
  refine ⟨⟨_, _, _, hs2, ?_, bex_stored (by omega) (bex_app (by omega) h.ex), h.hN, (nb (by omega)).trans h.b0, hb1, (nb (by omega)).trans h.b4, (nb (by omega)).trans h.b5, (nb (by omega)).trans h.b6, (n0 (by omega) (by omega)).trans h.k0, ?_, ?_, (h.s2.other (by omega)).stored (fun e => absurd e (by omega)), (n0 (by omega) (by omega)).trans h.k2, (h.s3.other (by omega)).stored (fun e => absurd e (by omega)), (n0 (by omega) (by omega)).trans h.k3, (n0 (by omega) (by omega)).trans h.k4, (n0 (by omega) (by omega)).trans h.k5, (n0 (by omega) (by omega)).trans h.k6, (h.s7.other (by omega)).stored (fun e => absurd e (by omega)), (n0 (by omega) (by omega)).trans h.k7, (h.s8.other (by omega)).stored (fun e => absurd e (by omega)), (n0 (by omega) (by omega)).trans h.k8⟩, hb.trans ?_⟩
  · have := hg.size
    have := h.LW
    simp
    omega
  · rw [updF_same]
    show ((List.range d.N).map d.ov).set u tv' = (List.range d.N).map (updF d.ov u tv')
    apply List.ext_getElem?
    intro i
    rw [List.getElem?_set]
    simp only [List.getElem?_map, List.length_map, List.length_range]
    by_cases hi : i < d.N
    · rw [List.getElem?_range hi]
      by_cases e : u = i
      · subst e
        simp [hu, updF]
      · simp [e, updF, Ne.symm e]
    · rw [List.getElem?_eq_none (by simpa using hi)]
      have : u ≠ i := by omega
      simp [this]
  · intro w hw
    have hw' : w < d.N := hw
    show SlV _ _ _ (10 + w) 1 (updF d.ov u tv' w) (updF d.og u (d.og u ++ [x]) w).length ∧ _ = (updF d.og u (d.og u ++ [x]) w).map nv
    by_cases e : w = u
    · subst e
      rw [updF_same, updF_same]
      refine ⟨?_, by rw [n2, q2]; simp⟩
      have e9 : (d.og w ++ [x]).length = (d.og w).length + 1 := List.length_append
      rw [e9]
      exact hs.stored (l2 := 1) (fun e => absurd e (by omega))
    · rw [updF_ne _ _ e, updF_ne _ _ e]
      obtain ⟨p1, p2⟩ := h.ks w hw'
      refine ⟨(p1.other (by omega)).stored (fun e => absurd e (by omega)), ?_⟩
      rw [updF_ne _ _ (by omega), updF_ne _ _ (by omega)]
      exact p2
  · exact hp.storeBelow hb1 u tv'
theorem BF.setSink (h : BF L W d blk cont cp) (x : Int) : BF L (W.setCell ⟨d.b0, 3, none⟩ (iv x)) { d with sink := x } blk (updF cont 0 (bC { d with sink := x })) cp := by
  have hs := h.hp.store h.b0 (i := 3) (by rw [h.k0]; simp [bC]) (iv x)
  rw [h.k0] at hs
  have n0 : ∀ {l : Nat}, l ≠ 0 → updF cont 0 (bC { d with sink := x }) l = cont l := fun h1 => updF_ne _ _ h1
  exact ⟨hs, by simpa using h.LW, bex_stored (by omega) h.ex, h.hN, h.b0, h.b1, h.b4, h.b5, h.b6, by rw [updF_same], (n0 (by omega)).trans h.k1, bks_stored (by omega) h.ks, h.s2.stored (fun e => absurd e (by omega)), (n0 (by omega)).trans h.k2, h.s3.stored (fun e => absurd e (by omega)), (n0 (by omega)).trans h.k3, (n0 (by omega)).trans h.k4, (n0 (by omega)).trans h.k5, (n0 (by omega)).trans h.k6, h.s7.stored (fun e => absurd e (by omega)), (n0 (by omega)).trans h.k7, h.s8.stored (fun e => absurd e (by omega)), (n0 (by omega)).trans h.k8⟩
end Go.Proofs.Ybulkcejy
