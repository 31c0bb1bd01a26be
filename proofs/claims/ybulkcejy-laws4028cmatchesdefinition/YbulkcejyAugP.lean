import Derived.Test.YbulkcejyNet2
namespace Go.Proofs.Ybulkcejy

def rm (v : NV) (a : Nat) : Int := v.room.getD a 0
def lv (v : NV) (u : Nat) : Int := v.level.getD u 0
def sn (v : NV) (u : Nat) : Int := v.seen.getD u 0
def nx (v : NV) (u : Nat) : Int := v.next.getD u 0
def tt (c : Net) (a : Nat) : Nat := c.to.getD a 0
def arc (c : Net) (u i : Nat) : Nat := (c.og u).getD i 0
structure WFc (c : Net) : Prop where
  ev : c.A % 2 = 0
  hA : c.A ≤ 10000
  hN : c.N ≤ 100
  sk : c.sink < c.N
  og : ∀ u, u < c.N → ∀ i, i < (c.og u).length → arc c u i < c.A ∧ tt c (pt (arc c u i)) = u
  to : ∀ a, a < c.A → tt c a < c.N
  ol : ∀ u, u < c.N → (c.og u).length ≤ 10000
theorem getD_set {xs : List Int} {i j : Nat} {x : Int} (h : i < xs.length) : (xs.set i x).getD j 0 = if j = i then x else xs.getD j 0 := by
  simp only [List.getD, List.getElem?_set]
  by_cases e : j = i
  · subst e
    simp [h]
  · simp [e, Ne.symm e]

/-- Lengths that do not turn. -/
structure Len (c : Net) (v : NV) : Prop where
  r : v.room.length = c.A
  l : v.level.length = c.N
  s : v.seen.length = c.N
  n : v.next.length = c.N
def RM (c : Net) (v : NV) : Prop := ∀ a, a < c.A → 0 ≤ rm v a ∧ rm v a + rm v (pt a) ≤ 1000
def LB (c : Net) (v : NV) : Prop := ∀ w, w < c.N → sn v w = v.mark → 0 ≤ lv v w ∧ lv v w ≤ c.N
def NB (c : Net) (v : NV) : Prop := ∀ w, w < c.N → w ≠ c.sink → sn v w = v.mark → 0 ≤ nx v w ∧ nx v w ≤ (c.og w).length
def CB (c : Net) (v : NV) : Prop := ∀ p, p ∈ v.changed → p.1 < c.A
def adm (c : Net) (v : NV) (w a : Nat) : Prop := rm v a ≠ 0 ∧ sn v (tt c a) = v.mark ∧ lv v (tt c a) = lv v w + 1
def EE (c : Net) (v : NV) : Prop := ∀ w, w < c.N → w ≠ c.sink → sn v w = v.mark → ∀ i, i < (c.og w).length → (i : Int) < nx v w →
  ¬ adm c v w (arc c w i) ∨ (tt c (arc c w i) ≠ c.sink ∧ nx v (tt c (arc c w i)) = (c.og (tt c (arc c w i))).length)
def undo (log : List (Nat × Int)) (room : List Int) : List Int := log.reverse.foldl (fun r p => r.set p.1 p.2) room
theorem undo_append (xs ys : List (Nat × Int)) (room : List Int) : undo (xs ++ ys) room = undo xs (undo ys room) := by simp [undo, List.reverse_append, List.foldl_append]

/-- What a call of augment leaves, while nothing is sent. -/
structure Lp (c : Net) (v : NV) (u : Nat) (v1 : NV) : Prop where
  room : v1.room = v.room
  level : v1.level = v.level
  seen : v1.seen = v.seen
  mark : v1.mark = v.mark
  reached : v1.reached = v.reached
  changed : v1.changed = v.changed
  len : Len c v1
  nb : NB c v1
  nf : ∀ w, w < c.N → ¬ (sn v w = v.mark ∧ lv v u ≤ lv v w) → nx v1 w = nx v w
  ee : EE c v → EE c v1
structure AugPost (c : Net) (v : NV) (u k : Nat) (most sent : Int) (v' : NV) : Prop where
  s0 : 0 ≤ sent ∧ sent ≤ most
  level : v'.level = v.level
  seen : v'.seen = v.seen
  mark : v'.mark = v.mark
  reached : v'.reached = v.reached
  len : Len c v'
  rmn : RM c v'
  nb : NB c v'
  nf : ∀ w, w < c.N → ¬ (sn v w = v.mark ∧ lv v u ≤ lv v w) → nx v' w = nx v w
  rf : ∀ a, a < c.A → rm v' a ≠ rm v a → lv v u ≤ lv v (tt c a) ∧ lv v u ≤ lv v (tt c (pt a))
  x : ∀ S : Nat → Bool, S c.sink = false → X c.A (tt c) S (rm v') = X c.A (tt c) S (rm v) - b2i (S u) * sent
  zero : sent = 0 → v'.room = v.room ∧ v'.changed = v.changed
  un : undo v'.changed v'.room = undo v.changed v.room
  cb : CB c v'
  cl : v'.changed.length ≤ v.changed.length + 2 * k
  dfs : EE c v → sent = 0 → EE c v' ∧ u ≠ c.sink ∧ nx v' u = (c.og u).length

theorem Lp.start {c : Net} {v : NV} (u : Nat) (hl : Len c v) (hn : NB c v) : Lp c v u v := ⟨rfl, rfl, rfl, rfl, rfl, rfl, hl, hn, fun _ _ _ => rfl, fun h => h⟩
/-- One arc of u passed over. -/
theorem Lp.inc {c : Net} {v v1 : NV} {u i : Nat} (h : Lp c v u v1) (hu : u < c.N) (hus : u ≠ c.sink) (hsu : sn v u = v.mark) (hi : nx v1 u = i) (hil : i < (c.og u).length)
    (hno : EE c v → ¬ adm c v1 u (arc c u i) ∨ (tt c (arc c u i) ≠ c.sink ∧ tt c (arc c u i) ≠ u ∧ nx v1 (tt c (arc c u i)) = (c.og (tt c (arc c u i))).length)) (hdown : ¬ (tt c (arc c u i) = u ∧ adm c v1 u (arc c u i))) :
    Lp c v u { v1 with next := v1.next.set u ((i : Int) + 1) } := by
  have hlen := h.len.n
  have e : ∀ w, nx { v1 with next := v1.next.set u ((i : Int) + 1) } w = if w = u then (i : Int) + 1 else nx v1 w := fun w => getD_set (by rw [hlen]; exact hu)
  refine ⟨h.room, h.level, h.seen, h.mark, h.reached, h.changed, ⟨h.len.r, h.len.l, h.len.s, by simpa using hlen⟩, fun w hw hws hsw => ?_, fun w hw hnw => ?_, fun hE => ?_⟩
  · rw [e]
    split
    · rename_i q
      subst q
      omega
    · exact h.nb w hw hws hsw
  · rw [e]
    split
    · rename_i q
      subst q
      exact absurd ⟨hsu, Int.le_refl _⟩ hnw
    · exact h.nf w hw hnw
  · have hE1 := h.ee hE
    intro w hw hws hsw j hj hjn
    rw [e] at hjn
    have hadm : adm c { v1 with next := v1.next.set u ((i : Int) + 1) } w (arc c w j) ↔ adm c v1 w (arc c w j) := Iff.rfl
    rw [e]
    by_cases q : w = u
    · subst q
      rw [if_pos rfl] at hjn
      rcases Nat.lt_or_ge j i with hji | hji
      · rcases hE1 w hw hws hsw j hj (by omega) with a | ⟨a, b⟩
        · exact .inl a
        · refine .inr ⟨a, ?_⟩
          split
          · rename_i q2
            rw [q2, hi] at b
            omega
          · exact b
      · obtain rfl : j = i := by omega
        rcases hno hE with a | ⟨a, b, d⟩
        · exact .inl a
        · exact .inr ⟨a, by rw [if_neg b]; exact d⟩
    · rw [if_neg q] at hjn
      rcases hE1 w hw hws hsw j hj hjn with a | ⟨a, b⟩
      · exact .inl a
      · refine .inr ⟨a, ?_⟩
        split
        · rename_i q2
          rw [q2, hi] at b
          omega
        · exact b
/-- A call from a node one level on that sent nothing. -/
theorem Lp.call {c : Net} {v v1 v2 : NV} {u t k : Nat} {m : Int} (h : Lp c v u v1) (hl : lv v t = lv v u + 1) (hp : AugPost c v1 t k m 0 v2) : Lp c v u v2 := by
  obtain ⟨z1, z2⟩ := hp.zero rfl
  have el : ∀ w, lv v1 w = lv v w := fun w => by unfold lv; rw [h.level]
  have es : ∀ w, sn v1 w = sn v w := fun w => by unfold sn; rw [h.seen]
  refine ⟨z1.trans h.room, hp.level.trans h.level, hp.seen.trans h.seen, hp.mark.trans h.mark, hp.reached.trans h.reached, z2.trans h.changed, hp.len, hp.nb, fun w hw hnw => ?_, fun hE => (hp.dfs (h.ee hE) rfl).1⟩
  rw [hp.nf w hw (fun ⟨a, b⟩ => hnw ⟨by rw [← es, ← h.mark]; exact a, by rw [el, el] at b; omega⟩)]
  exact h.nf w hw hnw
/-- No arc has led on. -/
theorem Lp.fail {c : Net} {v v1 : NV} {u k : Nat} {most : Int} (h : Lp c v u v1) (hus : u ≠ c.sink) (hm : 0 < most) (hr : RM c v) (hc : CB c v) (hn : nx v1 u = (c.og u).length) : AugPost c v u k most 0 v1 := by
  have er : ∀ a, rm v1 a = rm v a := fun a => by unfold rm; rw [h.room]
  refine ⟨⟨Int.le_refl _, by omega⟩, h.level, h.seen, h.mark, h.reached, h.len, fun a ha => by rw [er, er]; exact hr a ha, h.nb, h.nf, fun a _ hne => absurd (er a) hne, fun S _ => ?_, fun _ => ⟨h.room, h.changed⟩, by rw [h.changed, h.room], fun p hp => hc p (by rw [← h.changed]; exact hp), by rw [h.changed]; omega, fun hE _ => ⟨h.ee hE, hus, hn⟩⟩
  have : rm v1 = rm v := funext er
  rw [this]
  omega
/-- At the sink. -/
theorem AugPost.sink {c : Net} {v : NV} {k : Nat} {most : Int} (hl : Len c v) (hr : RM c v) (hn : NB c v) (hc : CB c v) (hm : 0 < most) : AugPost c v c.sink k most most v := by
  refine ⟨⟨by omega, Int.le_refl _⟩, rfl, rfl, rfl, rfl, hl, hr, hn, fun _ _ _ => rfl, fun a _ h => absurd rfl h, fun S hS => ?_, fun h => absurd h (by omega), rfl, hc, by omega, fun _ h => absurd h (by omega)⟩
  rw [hS]
  simp [b2i]
end Go.Proofs.Ybulkcejy
