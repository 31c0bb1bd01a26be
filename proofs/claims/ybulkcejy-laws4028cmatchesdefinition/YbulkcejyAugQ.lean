import Derived.Test.YbulkcejyAugP
namespace Go.Proofs.Ybulkcejy
set_option linter.unusedVariables false
set_option linter.unusedSimpArgs false

def sentV (v : NV) (a : Nat) (s : Int) : NV := { v with changed := v.changed ++ [(a, rm v a), (pt a, rm v (pt a))], room := (v.room.set a (rm v a - s)).set (pt a) (rm v (pt a) + s) }
theorem rm_sent {c : Net} {v : NV} {a : Nat} {s : Int} (hl : v.room.length = c.A) (hev : c.A % 2 = 0) (ha : a < c.A) : rm (sentV v a s) = push (rm v) a s := by
  funext b
  have hp := pt_lt ha hev
  unfold rm sentV push upd
  rw [getD_set (by rw [List.length_set, hl]; exact hp), getD_set (by rw [hl]; exact ha)]
  rfl
theorem set_back (xs : List Int) {a p : Nat} (hne : p ≠ a) (ha : a < xs.length) (hp : p < xs.length) (x y : Int) : ((((xs.set a x).set p y).set p (xs.getD p 0)).set a (xs.getD a 0)) = xs := by
  apply List.ext_getElem?
  intro i
  simp only [List.getElem?_set, List.length_set]
  by_cases h1 : a = i
  · subst h1
    simp [ha, List.getD, List.getElem?_eq_getElem ha]
  · by_cases h2 : p = i
    · subst h2
      simp [h1, hp, List.getD, List.getElem?_eq_getElem hp]
    · simp [h1, h2]
theorem AugPost.sent {c : Net} (hc : WFc c) {v v1 v2 : NV} {u t a k : Nat} {most s : Int} (h : Lp c v u v1) (ha : a < c.A) (hfr : tt c (pt a) = u) (hto : tt c a = t) (hl : lv v t = lv v u + 1) (hsu : sn v u = v.mark)
    (hp : AugPost c v1 t k (min most (rm v1 a)) s v2) (hs : 0 < s) : AugPost c v u (k + 1) most s (sentV v2 a s) := by
  have hpa := pt_lt ha hc.ev
  have el : ∀ w, lv v1 w = lv v w := fun w => by unfold lv; rw [h.level]
  have es : ∀ w, sn v1 w = sn v w := fun w => by unfold sn; rw [h.seen]
  have er : ∀ b, rm v1 b = rm v b := fun b => by unfold rm; rw [h.room]
  have ea : rm v2 a = rm v1 a := by
    rcases Decidable.em (rm v2 a = rm v1 a) with q | q
    · exact q
    · have := (hp.rf a ha q).2
      rw [hfr, el, el] at this
      omega
  have ep : rm v2 (pt a) = rm v1 (pt a) := by
    rcases Decidable.em (rm v2 (pt a) = rm v1 (pt a)) with q | q
    · exact q
    · have := (hp.rf (pt a) hpa q).1
      rw [hfr, el, el] at this
      omega
  have hsm : s ≤ most ∧ s ≤ rm v1 a := by
    have := hp.s0.2
    omega
  have hrs := rm_sent (c := c) (v := v2) (a := a) (s := s) hp.len.r hc.ev ha
  refine ⟨⟨by omega, hsm.1⟩, hp.level.trans h.level, hp.seen.trans h.seen, hp.mark.trans h.mark, hp.reached.trans h.reached, ⟨by simpa [sentV] using hp.len.r, hp.len.l, hp.len.s, hp.len.n⟩, fun b hb => ?_, hp.nb, fun w hw hnw => ?_, fun b hb hne => ?_, fun S hS => ?_, fun e => absurd e (by omega), ?_, fun p hpm => ?_, ?_, fun _ e => absurd e (by omega)⟩
  · rw [hrs]
    have r1 := hp.rmn a ha
    have r2 := hp.rmn (pt a) hpa
    rw [pt_pt] at r2
    by_cases q1 : b = a
    · subst q1
      rw [push_at, push_pt]
      omega
    · by_cases q2 : b = pt a
      · subst q2
        rw [push_pt, pt_pt, push_at]
        omega
      · have q3 : pt b ≠ a := fun e => q2 (by rw [← e, pt_pt])
        have q4 : pt b ≠ pt a := fun e => q1 (by rw [← pt_pt b, e, pt_pt])
        rw [push_ne _ _ q1 q2, push_ne _ _ q3 q4]
        exact hp.rmn b hb
  · have e : nx (sentV v2 a s) w = nx v2 w := rfl
    rw [e, hp.nf w hw (fun ⟨x, y⟩ => hnw ⟨by rw [← es, ← h.mark]; exact x, by rw [el, el] at y; omega⟩)]
    exact h.nf w hw hnw
  · rw [hrs] at hne
    by_cases q1 : b = a
    · subst q1
      rw [hfr, hto]
      omega
    · by_cases q2 : b = pt a
      · subst q2
        rw [pt_pt, hfr, hto]
        omega
      · rw [push_ne _ _ q1 q2] at hne
        have := hp.rf b hb (by rw [er]; exact hne)
        rw [el, el, el] at this
        omega
  · have e1 : rm v1 = rm v := funext er
    rw [hrs, X_push hc.ev ha, hp.x S hS, hfr, hto, e1]
    omega
  · show undo (v2.changed ++ [(a, rm v2 a), (pt a, rm v2 (pt a))]) ((v2.room.set a (rm v2 a - s)).set (pt a) (rm v2 (pt a) + s)) = _
    rw [undo_append]
    have e : undo [(a, rm v2 a), (pt a, rm v2 (pt a))] ((v2.room.set a (rm v2 a - s)).set (pt a) (rm v2 (pt a) + s)) = v2.room := set_back v2.room (pt_ne a) (by rw [hp.len.r]; exact ha) (by rw [hp.len.r]; exact hpa) _ _
    rw [e, hp.un, h.changed, h.room]
  · have hpm' : p ∈ v2.changed ++ [(a, rm v2 a), (pt a, rm v2 (pt a))] := hpm
    rcases List.mem_append.1 hpm' with q | q
    · exact hp.cb p q
    · simp only [List.mem_cons, List.not_mem_nil, or_false] at q
      rcases q with rfl | rfl
      · exact ha
      · exact hpa
  · have e : (sentV v2 a s).changed.length = v2.changed.length + 2 := by simp [sentV]
    have := hp.cl
    rw [h.changed] at this
    omega
end Go.Proofs.Ybulkcejy
