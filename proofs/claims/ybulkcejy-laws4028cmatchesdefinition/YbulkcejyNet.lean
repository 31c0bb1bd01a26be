import Derived.Test.YbulkcejyHeap
namespace Go.Proofs.Ybulkcejy
open Go.RowKit

def iv (x : Int) : Value := .int .i64 x
def nv (x : Nat) : Value := .int .i64 x
/-- What does not turn while flows are sought. -/
structure Net where
  N : Nat
  A : Nat
  tc : Nat
  rc : Nat
  sink : Nat
  unb : Int
  og : Nat → List Nat
  ov : Nat → Value
  to : List Nat
  /-- other blocks that live beside: labels from 1000 on -/
  xb : Nat → Option Nat
  xc : Nat → List Value
  xp : Nat → Nat
/-- What does. -/
structure NV where
  room : List Int
  level : List Int
  seen : List Int
  next : List Int
  mark : Int
  reached : List Nat
  changed : List (Nat × Int)
def tyF (l : Nat) : Nat := if l = 0 then 49 else if l = 1 then 37 else if l = 8 then 57 else if 1000 ≤ l then (l - 1000) % 100 else 3
def netC (B : Nat → Nat) (c : Net) (v : NV) (rv cv : Value) : List Value := [.slice (some ⟨B 1, 0, none⟩) c.N c.N, .slice (some ⟨B 2, 0, none⟩) c.A c.tc, .slice (some ⟨B 3, 0, none⟩) c.A c.rc, nv c.sink, iv c.unb, .slice (some ⟨B 4, 0, none⟩) c.N c.N, .slice (some ⟨B 5, 0, none⟩) c.N c.N, iv v.mark, rv, .slice (some ⟨B 6, 0, none⟩) c.N c.N, cv]
def flat (xs : List (Nat × Int)) : List Value := xs.flatMap fun p => [nv p.1, iv p.2]
theorem flat_len (xs : List (Nat × Int)) : (flat xs).length = xs.length * 2 := by
  induction xs with
  | nil => rfl
  | cons p xs ih => simp only [flat, List.flatMap_cons, List.length_append, List.length_cons, List.length_nil] at ih ⊢; omega

structure NF (L : Nat) (W : World) (B : Nat → Nat) (c : Net) (v : NV) (rv cv : Value) (blk : Nat → Option Nat) (cont : Nat → List Value) (cp : Nat → Nat) : Prop where
  hp : HP L W blk cont cp tyF
  LW : L ≤ W.heap.size
  ex : ∀ l, 1000 ≤ l → blk l = c.xb l ∧ cont l = c.xc l ∧ cp l = c.xp l
  bl : ∀ l, l ≤ 6 → blk l = some (B l)
  k0 : cont 0 = netC B c v rv cv
  k1 : cont 1 = (List.range c.N).map c.ov
  ks : ∀ u, u < c.N → SlV blk cont cp (10 + u) 1 (c.ov u) (c.og u).length ∧ cont (10 + u) = (c.og u).map nv
  k2 : cont 2 = c.to.map nv
  l2 : c.to.length = c.A
  k3 : cont 3 = v.room.map iv
  l3 : v.room.length = c.A
  k4 : cont 4 = v.level.map iv
  l4 : v.level.length = c.N
  k5 : cont 5 = v.seen.map iv
  l5 : v.seen.length = c.N
  k6 : cont 6 = v.next.map iv
  l6 : v.next.length = c.N
  s7 : SlV blk cont cp 7 1 rv v.reached.length
  k7 : cont 7 = v.reached.map nv
  s8 : SlV blk cont cp 8 2 cv v.changed.length
  k8 : cont 8 = flat v.changed

variable {L : Nat} {W : World} {B : Nat → Nat} {c : Net} {v : NV} {rv cv : Value} {blk : Nat → Option Nat} {cont : Nat → List Value} {cp : Nat → Nat}
theorem NF.field (h : NF L W B c v rv cv blk cont cp) {i : Nat} {x : Value} (hx : (netC B c v rv cv)[i]? = some x) : W.cell? ⟨B 0, i, none⟩ = some x := h.hp.read (h.bl 0 (by omega)) (by rw [h.k0]; exact hx)
theorem NF.ffz (h : NF L W B c v rv cv blk cont cp) (l : Nat) (hl : l ≤ 6) (i : Nat) : W.frozen? ⟨B l, i, none⟩ = false := h.hp.frozen (h.bl l hl) i
theorem NF.outv (h : NF L W B c v rv cv blk cont cp) {u : Nat} (hu : u < c.N) : W.cell? ⟨B 1, u, none⟩ = some (c.ov u) := h.hp.read (h.bl 1 (by omega)) (by rw [h.k1]; simp [hu])
theorem getD_map_iv {xs : List Int} {i : Nat} (h : i < xs.length) : (xs.map iv)[i]? = some (iv (xs.getD i 0)) := by simp [List.getD, List.getElem?_map, List.getElem?_eq_getElem h]
theorem getD_map_nv {xs : List Nat} {i : Nat} (h : i < xs.length) : (xs.map nv)[i]? = some (nv (xs.getD i 0)) := by simp [List.getD, List.getElem?_map, List.getElem?_eq_getElem h]
theorem NF.tov (h : NF L W B c v rv cv blk cont cp) {a : Nat} (ha : a < c.A) : W.cell? ⟨B 2, a, none⟩ = some (nv (c.to.getD a 0)) := h.hp.read (h.bl 2 (by omega)) (by rw [h.k2]; exact getD_map_nv (by rw [h.l2]; exact ha))
theorem NF.roomv (h : NF L W B c v rv cv blk cont cp) {a : Nat} (ha : a < c.A) : W.cell? ⟨B 3, a, none⟩ = some (iv (v.room.getD a 0)) := h.hp.read (h.bl 3 (by omega)) (by rw [h.k3]; exact getD_map_iv (by rw [h.l3]; exact ha))
theorem NF.levelv (h : NF L W B c v rv cv blk cont cp) {u : Nat} (hu : u < c.N) : W.cell? ⟨B 4, u, none⟩ = some (iv (v.level.getD u 0)) := h.hp.read (h.bl 4 (by omega)) (by rw [h.k4]; exact getD_map_iv (by rw [h.l4]; exact hu))
theorem NF.seenv (h : NF L W B c v rv cv blk cont cp) {u : Nat} (hu : u < c.N) : W.cell? ⟨B 5, u, none⟩ = some (iv (v.seen.getD u 0)) := h.hp.read (h.bl 5 (by omega)) (by rw [h.k5]; exact getD_map_iv (by rw [h.l5]; exact hu))
theorem NF.nextv (h : NF L W B c v rv cv blk cont cp) {u : Nat} (hu : u < c.N) : W.cell? ⟨B 6, u, none⟩ = some (iv (v.next.getD u 0)) := h.hp.read (h.bl 6 (by omega)) (by rw [h.k6]; exact getD_map_iv (by rw [h.l6]; exact hu))
/-- An arc's number, off its node's slice. -/
theorem NF.arcv (h : NF L W B c v rv cv blk cont cp) {u i : Nat} (hu : u < c.N) (hi : i < (c.og u).length) : ∃ b cap, c.ov u = .slice (some ⟨b, 0, none⟩) (c.og u).length cap ∧ W.cell? ⟨b, i, none⟩ = some (nv ((c.og u).getD i 0)) ∧ b < W.heap.size := by
  obtain ⟨hs, hk⟩ := h.ks u hu
  rcases hs.2 with ⟨_, h0, _⟩ | ⟨b, cap, h1, h2, _⟩
  · omega
  · exact ⟨b, cap, h1, h.hp.read h2 (by rw [hk]; exact getD_map_nv hi), (h.hp.lt h2).2⟩
theorem NF.ovform (h : NF L W B c v rv cv blk cont cp) {u : Nat} (hu : u < c.N) : ∃ a cap, c.ov u = .slice a (c.og u).length cap := by
  obtain ⟨hs, _⟩ := h.ks u hu
  rcases hs.2 with ⟨h1, h0, _⟩ | ⟨b, cap, h1, h2, _⟩
  · exact ⟨none, 0, by rw [h1, h0]⟩
  · exact ⟨_, cap, h1⟩
theorem NF.grow (h : NF L W B c v rv cv blk cont cp) {W' : World} (hb : Below W.heap.size W W') : NF L W' B c v rv cv blk cont cp :=
  { h with hp := h.hp.grow hb, LW := Nat.le_trans h.LW hb.size }
theorem set_map_iv (xs : List Int) (i : Nat) (x : Int) : (xs.map iv).set i (iv x) = (xs.set i x).map iv := by rw [List.map_set]

theorem ex_stored {l2 : Nat} {xs : List Value} (hl : l2 < 10) (h : ∀ l, 1000 ≤ l → blk l = c.xb l ∧ cont l = c.xc l ∧ cp l = c.xp l) : ∀ l, 1000 ≤ l → blk l = c.xb l ∧ updF cont l2 xs l = c.xc l ∧ cp l = c.xp l := fun l h1 => by
  rw [updF_ne _ _ (by omega)]
  exact h l h1
theorem ex_app {l2 : Nat} {xs : List Value} {x : Option Nat} {k : Nat} (hl : l2 < 10) (h : ∀ l, 1000 ≤ l → blk l = c.xb l ∧ cont l = c.xc l ∧ cp l = c.xp l) : ∀ l, 1000 ≤ l → updF blk l2 x l = c.xb l ∧ updF cont l2 xs l = c.xc l ∧ updF cp l2 k l = c.xp l := fun l h1 => by
  rw [updF_ne _ _ (by omega), updF_ne _ _ (by omega), updF_ne _ _ (by omega)]
  exact h l h1
theorem ks_stored {l2 : Nat} {xs : List Value} (hl : l2 < 10) (h : ∀ u, u < c.N → SlV blk cont cp (10 + u) 1 (c.ov u) (c.og u).length ∧ cont (10 + u) = (c.og u).map nv) : ∀ u, u < c.N → SlV blk (updF cont l2 xs) cp (10 + u) 1 (c.ov u) (c.og u).length ∧ updF cont l2 xs (10 + u) = (c.og u).map nv := by
  intro u hu
  have hne : 10 + u ≠ l2 := by omega
  exact ⟨(h u hu).1.stored (fun e => absurd e hne), by rw [updF_ne _ _ hne]; exact (h u hu).2⟩
theorem NF.setRoom (h : NF L W B c v rv cv blk cont cp) {a : Nat} (ha : a < c.A) (x : Int) : NF L (W.setCell ⟨B 3, a, none⟩ (iv x)) B c { v with room := v.room.set a x } rv cv blk (updF cont 3 ((v.room.set a x).map iv)) cp := by
  have hs := h.hp.store (h.bl 3 (by omega)) (i := a) (by rw [h.k3, List.length_map, h.l3]; exact ha) (iv x)
  rw [h.k3, set_map_iv] at hs
  refine ⟨hs, by simpa using h.LW, ex_stored (by omega) h.ex, h.bl, by rw [updF_ne _ _ (by omega)]; exact h.k0, by rw [updF_ne _ _ (by omega)]; exact h.k1, ks_stored (by omega) h.ks, by rw [updF_ne _ _ (by omega)]; exact h.k2, h.l2, by rw [updF_same], by simpa using h.l3, by rw [updF_ne _ _ (by omega)]; exact h.k4, h.l4, by rw [updF_ne _ _ (by omega)]; exact h.k5, h.l5, by rw [updF_ne _ _ (by omega)]; exact h.k6, h.l6, h.s7.stored (fun e => absurd e (by omega)), by rw [updF_ne _ _ (by omega)]; exact h.k7, h.s8.stored (fun e => absurd e (by omega)), by rw [updF_ne _ _ (by omega)]; exact h.k8⟩
theorem NF.setLevel (h : NF L W B c v rv cv blk cont cp) {a : Nat} (ha : a < c.N) (x : Int) : NF L (W.setCell ⟨B 4, a, none⟩ (iv x)) B c { v with level := v.level.set a x } rv cv blk (updF cont 4 ((v.level.set a x).map iv)) cp := by
  have hs := h.hp.store (h.bl 4 (by omega)) (i := a) (by rw [h.k4, List.length_map, h.l4]; exact ha) (iv x)
  rw [h.k4, set_map_iv] at hs
  refine ⟨hs, by simpa using h.LW, ex_stored (by omega) h.ex, h.bl, by rw [updF_ne _ _ (by omega)]; exact h.k0, by rw [updF_ne _ _ (by omega)]; exact h.k1, ks_stored (by omega) h.ks, by rw [updF_ne _ _ (by omega)]; exact h.k2, h.l2, by rw [updF_ne _ _ (by omega)]; exact h.k3, h.l3, by rw [updF_same], by simpa using h.l4, by rw [updF_ne _ _ (by omega)]; exact h.k5, h.l5, by rw [updF_ne _ _ (by omega)]; exact h.k6, h.l6, h.s7.stored (fun e => absurd e (by omega)), by rw [updF_ne _ _ (by omega)]; exact h.k7, h.s8.stored (fun e => absurd e (by omega)), by rw [updF_ne _ _ (by omega)]; exact h.k8⟩
theorem NF.setSeen (h : NF L W B c v rv cv blk cont cp) {a : Nat} (ha : a < c.N) (x : Int) : NF L (W.setCell ⟨B 5, a, none⟩ (iv x)) B c { v with seen := v.seen.set a x } rv cv blk (updF cont 5 ((v.seen.set a x).map iv)) cp := by
  have hs := h.hp.store (h.bl 5 (by omega)) (i := a) (by rw [h.k5, List.length_map, h.l5]; exact ha) (iv x)
  rw [h.k5, set_map_iv] at hs
  refine ⟨hs, by simpa using h.LW, ex_stored (by omega) h.ex, h.bl, by rw [updF_ne _ _ (by omega)]; exact h.k0, by rw [updF_ne _ _ (by omega)]; exact h.k1, ks_stored (by omega) h.ks, by rw [updF_ne _ _ (by omega)]; exact h.k2, h.l2, by rw [updF_ne _ _ (by omega)]; exact h.k3, h.l3, by rw [updF_ne _ _ (by omega)]; exact h.k4, h.l4, by rw [updF_same], by simpa using h.l5, by rw [updF_ne _ _ (by omega)]; exact h.k6, h.l6, h.s7.stored (fun e => absurd e (by omega)), by rw [updF_ne _ _ (by omega)]; exact h.k7, h.s8.stored (fun e => absurd e (by omega)), by rw [updF_ne _ _ (by omega)]; exact h.k8⟩
theorem NF.setNext (h : NF L W B c v rv cv blk cont cp) {a : Nat} (ha : a < c.N) (x : Int) : NF L (W.setCell ⟨B 6, a, none⟩ (iv x)) B c { v with next := v.next.set a x } rv cv blk (updF cont 6 ((v.next.set a x).map iv)) cp := by
  have hs := h.hp.store (h.bl 6 (by omega)) (i := a) (by rw [h.k6, List.length_map, h.l6]; exact ha) (iv x)
  rw [h.k6, set_map_iv] at hs
  refine ⟨hs, by simpa using h.LW, ex_stored (by omega) h.ex, h.bl, by rw [updF_ne _ _ (by omega)]; exact h.k0, by rw [updF_ne _ _ (by omega)]; exact h.k1, ks_stored (by omega) h.ks, by rw [updF_ne _ _ (by omega)]; exact h.k2, h.l2, by rw [updF_ne _ _ (by omega)]; exact h.k3, h.l3, by rw [updF_ne _ _ (by omega)]; exact h.k4, h.l4, by rw [updF_ne _ _ (by omega)]; exact h.k5, h.l5, by rw [updF_same], by simpa using h.l6, h.s7.stored (fun e => absurd e (by omega)), by rw [updF_ne _ _ (by omega)]; exact h.k7, h.s8.stored (fun e => absurd e (by omega)), by rw [updF_ne _ _ (by omega)]; exact h.k8⟩
theorem NF.setMark (h : NF L W B c v rv cv blk cont cp) (x : Int) : NF L (W.setCell ⟨B 0, 7, none⟩ (iv x)) B c { v with mark := x } rv cv blk (updF cont 0 (netC B c { v with mark := x } rv cv)) cp := by
  have hs := h.hp.store (h.bl 0 (by omega)) (i := 7) (by rw [h.k0]; simp [netC]) (iv x)
  rw [h.k0] at hs
  refine ⟨hs, by simpa using h.LW, ex_stored (by omega) h.ex, h.bl, by rw [updF_same], by rw [updF_ne _ _ (by omega)]; exact h.k1, ks_stored (by omega) h.ks, by rw [updF_ne _ _ (by omega)]; exact h.k2, h.l2, by rw [updF_ne _ _ (by omega)]; exact h.k3, h.l3, by rw [updF_ne _ _ (by omega)]; exact h.k4, h.l4, by rw [updF_ne _ _ (by omega)]; exact h.k5, h.l5, by rw [updF_ne _ _ (by omega)]; exact h.k6, h.l6, h.s7.stored (fun e => absurd e (by omega)), by rw [updF_ne _ _ (by omega)]; exact h.k7, h.s8.stored (fun e => absurd e (by omega)), by rw [updF_ne _ _ (by omega)]; exact h.k8⟩
end Go.Proofs.Ybulkcejy
