import Derived.Test.YbulkcejyTree
import Derived.Test.YbulkcejyRes
namespace Go.Proofs.Ybulkcejy
set_option linter.unusedVariables false

theorem nodup_le : ∀ (N : Nat) (l : List Nat), l.Nodup → (∀ w, w ∈ l → w < N) → l.length ≤ N
  | 0, l, _, h => by
    cases l with
    | nil => simp
    | cons a l => exact absurd (h a (by simp)) (by omega)
  | N + 1, l, hn, h => by
    have h1 := nodup_le N (l.erase N) (hn.erase N) (fun w hw => by
      have := (hn.mem_erase_iff).1 hw
      have h2 := h w this.2
      omega)
    have := List.length_erase (a := N) (l := l)
    split at this <;> omega
theorem getD_app {l : List Nat} {t j : Nat} : (l ++ [t]).getD j 0 = if j < l.length then l.getD j 0 else if j = l.length then t else 0 := by
  simp only [List.getD, List.getElem?_append]
  split
  · rfl
  · rename_i h
    split
    · rename_i h2
      subst h2
      simp
    · rw [List.getElem?_eq_none (by simp; omega)]
      rfl
def rd (v : NV) (j : Nat) : Nat := v.reached.getD j 0
theorem rd_mem {v : NV} {j : Nat} (h : j < v.reached.length) : rd v j ∈ v.reached := by
  unfold rd
  rw [List.getD_eq_getElem?_getD, List.getElem?_eq_getElem h]
  exact List.getElem_mem h
theorem mem_rd {v : NV} {w : Nat} (h : w ∈ v.reached) : ∃ j, j < v.reached.length ∧ rd v j = w := by
  obtain ⟨j, hj, e⟩ := List.getElem_of_mem h
  refine ⟨j, hj, ?_⟩
  unfold rd
  rw [List.getD_eq_getElem?_getD, List.getElem?_eq_getElem hj]
  exact e

/-- measure's search, as far as it has come. -/
structure MI (c : Net) (v : NV) (x : Nat) (v1 : NV) (i q : Nat) : Prop where
  room : v1.room = v.room
  next : v1.next = v.next
  changed : v1.changed = v.changed
  mark : v1.mark = v.mark + 1
  len : Len c v1
  sb : ∀ w, w < c.N → sn v1 w ≤ v1.mark
  nd : v1.reached.Nodup
  lt : ∀ w, w ∈ v1.reached → w < c.N
  sk : c.sink ∉ v1.reached
  iff : ∀ w, w < c.N → (sn v1 w = v1.mark ↔ w ∈ v1.reached)
  x0 : x ∈ v1.reached
  lev : ∀ j, j < v1.reached.length → 0 ≤ lv v1 (rd v1 j) ∧ lv v1 (rd v1 j) ≤ j
  tree : ∀ u, u ∈ v1.reached → u ≠ x → ∃ p a, p ∈ v1.reached ∧ a < (c.og p).length ∧ tt c (arc c p a) = u ∧ rm v1 (arc c p a) ≠ 0 ∧ lv v1 u = lv v1 p + 1
  done : ∀ j, j < v1.reached.length → j < i → ∀ a, a < (c.og (rd v1 j)).length → rm v1 (arc c (rd v1 j) a) ≠ 0 → tt c (arc c (rd v1 j) a) ∈ v1.reached
  now : i < v1.reached.length → ∀ a, a < q → a < (c.og (rd v1 i)).length → rm v1 (arc c (rd v1 i) a) ≠ 0 → tt c (arc c (rd v1 i) a) ∈ v1.reached
/-- What measure leaves. -/
structure MPost (c : Net) (v : NV) (x : Nat) (b : Bool) (v1 : NV) : Prop where
  room : v1.room = v.room
  next : v1.next = v.next
  changed : v1.changed = v.changed
  mark : v1.mark = v.mark + 1
  len : Len c v1
  sb : ∀ w, w < c.N → sn v1 w ≤ v1.mark
  sx : sn v1 x = v1.mark
  lb : LB c v1
  tree : Tree c v1 x
  rlt : ∀ w, w ∈ v1.reached → w < c.N
  rin : ∀ w, w < c.N → w ≠ c.sink → sn v1 w = v1.mark → w ∈ v1.reached
  yes : b = true → sn v1 c.sink = v1.mark
  no : b = false → sn v1 c.sink ≠ v1.mark ∧ ∀ u, u < c.N → sn v1 u = v1.mark → ∀ i, i < (c.og u).length → rm v1 (arc c u i) ≠ 0 → sn v1 (tt c (arc c u i)) = v1.mark

def startV (v : NV) (x : Nat) : NV := { v with mark := v.mark + 1, seen := v.seen.set x (v.mark + 1), level := v.level.set x 0, reached := [x] }
theorem MI.start {c : Net} {v : NV} {x : Nat} (hl : Len c v) (hx : x < c.N) (hxs : x ≠ c.sink) (hs : ∀ w, w < c.N → sn v w ≤ v.mark) : MI c v x (startV v x) 0 0 := by
  have es : ∀ w, sn (startV v x) w = if w = x then v.mark + 1 else sn v w := fun w => getD_set (by rw [hl.s]; exact hx)
  have el : ∀ w, lv (startV v x) w = if w = x then 0 else lv v w := fun w => getD_set (by rw [hl.l]; exact hx)
  have em : (startV v x).mark = v.mark + 1 := rfl
  have er : (startV v x).reached = [x] := rfl
  have erd : rd (startV v x) 0 = x := rfl
  refine ⟨rfl, rfl, rfl, rfl, ⟨hl.r, by simpa [startV] using hl.l, by simpa [startV] using hl.s, hl.n⟩, fun w hw => ?_, by simp [er], fun w hw => ?_, ?_, fun w hw => ?_, by simp [er], fun j hj => ?_, fun u hu hux => ?_, fun j _ h => absurd h (by omega), fun _ a h => absurd h (by omega)⟩
  · rw [es, em]
    have := hs w hw
    split <;> omega
  · simp [er] at hw
    omega
  · simp [er]
    omega
  · rw [es, em, er]
    have := hs w hw
    simp
    omega
  · simp [er] at hj
    subst hj
    rw [erd, el, if_pos rfl]
    simp
  · simp [er] at hu
    omega

theorem MI.skip {c : Net} {v v1 : NV} {x i q : Nat} (h : MI c v x v1 i q) (hq : rm v1 (arc c (rd v1 i) q) = 0 ∨ sn v1 (tt c (arc c (rd v1 i) q)) = v1.mark) (ht : tt c (arc c (rd v1 i) q) < c.N) : MI c v x v1 i (q + 1) :=
  { h with
    now := fun hi a ha hl hr => by
      by_cases e : a = q
      · subst e
        rcases hq with hq | hq
        · exact absurd hq hr
        · exact (h.iff _ ht).1 hq
      · exact h.now hi a (by omega) hl hr }
theorem MI.outer {c : Net} {v v1 : NV} {x i q : Nat} (h : MI c v x v1 i q) (hq : (c.og (rd v1 i)).length ≤ q) : MI c v x v1 (i + 1) 0 :=
  { h with
    done := fun j hj hji a ha hr => by
      by_cases e : j = i
      · subst e
        exact h.now hj a (by omega) ha hr
      · exact h.done j hj (by omega) a ha hr
    now := fun _ a ha => absurd ha (by omega) }
theorem MI.length {c : Net} {v v1 : NV} {x i q : Nat} (h : MI c v x v1 i q) : v1.reached.length ≤ c.N := nodup_le _ _ h.nd h.lt
def foundV (v1 : NV) (u t : Nat) : NV := { v1 with seen := v1.seen.set t v1.mark, level := v1.level.set t (lv v1 u + 1) }
def pushV (v1 : NV) (u t : Nat) : NV := { foundV v1 u t with reached := v1.reached ++ [t] }

theorem MI.push {c : Net} {v v1 : NV} {x i q : Nat} (h : MI c v x v1 i q) (hi : i < v1.reached.length) (hq : q < (c.og (rd v1 i)).length) {t : Nat} (htt : tt c (arc c (rd v1 i) q) = t) (ht : t < c.N) (hr : rm v1 (arc c (rd v1 i) q) ≠ 0) (hns : sn v1 t ≠ v1.mark) (hts : t ≠ c.sink) :
    MI c v x (pushV v1 (rd v1 i) t) i (q + 1) := by
  have htn : t ∉ v1.reached := fun e => hns ((h.iff t ht).2 e)
  have es : ∀ w, sn (pushV v1 (rd v1 i) t) w = if w = t then v1.mark else sn v1 w := fun w => getD_set (by rw [h.len.s]; exact ht)
  have el : ∀ w, lv (pushV v1 (rd v1 i) t) w = if w = t then lv v1 (rd v1 i) + 1 else lv v1 w := fun w => getD_set (by rw [h.len.l]; exact ht)
  have em : (pushV v1 (rd v1 i) t).mark = v1.mark := rfl
  have er : (pushV v1 (rd v1 i) t).reached = v1.reached ++ [t] := rfl
  have erm : ∀ a, rm (pushV v1 (rd v1 i) t) a = rm v1 a := fun _ => rfl
  have erd : ∀ j, j < v1.reached.length → rd (pushV v1 (rd v1 i) t) j = rd v1 j := fun j hj => by
    show (pushV v1 (rd v1 i) t).reached.getD j 0 = v1.reached.getD j 0
    rw [er, getD_app, if_pos hj]
  have erl : rd (pushV v1 (rd v1 i) t) v1.reached.length = t := by
    show (pushV v1 (rd v1 i) t).reached.getD v1.reached.length 0 = t
    rw [er, getD_app, if_neg (by omega), if_pos rfl]
  have hne : ∀ w, w ∈ v1.reached → w ≠ t := fun w hw e => htn (e ▸ hw)
  refine ⟨h.room, h.next, h.changed, h.mark, ⟨h.len.r, by simpa [pushV, foundV] using h.len.l, by simpa [pushV, foundV] using h.len.s, h.len.n⟩, fun w hw => ?_, ?_, fun w hw => ?_, ?_, fun w hw => ?_, ?_, fun j hj => ?_, fun u hu hux => ?_, fun j hj hji a ha hr2 => ?_, fun hi2 a ha hl hr2 => ?_⟩
  · rw [es, em]
    have := h.sb w hw
    split <;> omega
  · rw [er, List.nodup_append]
    exact ⟨h.nd, by simp, fun a ha b hb => by simp at hb; rw [hb]; exact hne a ha⟩
  · rw [er] at hw
    rcases List.mem_append.1 hw with q | q
    · exact h.lt w q
    · simp at q
      omega
  · rw [er]
    simp
    exact ⟨h.sk, Ne.symm hts⟩
  · rw [es, em, er]
    simp
    have := h.iff w hw
    by_cases e : w = t
    · simp [e]
    · simp [e, this]
  · rw [er]
    exact List.mem_append_left _ h.x0
  · rw [er] at hj
    simp at hj
    by_cases e : j = v1.reached.length
    · subst e
      rw [erl, el, if_pos rfl]
      have := h.lev i hi
      omega
    · rw [erd j (by omega), el, if_neg (hne _ (rd_mem (by omega)))]
      exact h.lev j (by omega)
  · rw [er] at hu
    rcases List.mem_append.1 hu with q | q
    · obtain ⟨p, a, hp, ha, h1, h2, h3⟩ := h.tree u q hux
      refine ⟨p, a, by rw [er]; exact List.mem_append_left _ hp, ha, h1, h2, ?_⟩
      rw [el, el, if_neg (hne _ q), if_neg (hne _ hp)]
      exact h3
    · simp at q
      subst q
      refine ⟨rd v1 i, _, by rw [er]; exact List.mem_append_left _ (rd_mem hi), hq, htt, hr, ?_⟩
      rw [el, el, if_pos rfl, if_neg (hne _ (rd_mem hi))]
  · rw [er]
    rw [erd j (by omega)] at *
    exact List.mem_append_left _ (h.done j (by omega) hji a ha hr2)
  · rw [erd i hi] at *
    rw [er]
    by_cases e : a = q
    · subst e
      rw [htt]
      simp
    · exact List.mem_append_left _ (h.now hi a (by omega) hl hr2)
theorem MI.LB {c : Net} {v v1 : NV} {x i q : Nat} (h : MI c v x v1 i q) : LB c v1 := fun w hw hs => by
  obtain ⟨j, hj, e⟩ := mem_rd ((h.iff w hw).1 hs)
  have h1 := h.lev j hj
  have h2 := h.length
  rw [e] at h1
  omega
theorem MI.found {c : Net} {v v1 : NV} {x i q : Nat} (h : MI c v x v1 i q) (hi : i < v1.reached.length) (hq : q < (c.og (rd v1 i)).length) {t : Nat} (htt : tt c (arc c (rd v1 i) q) = t) (ht : t < c.N) (hr : rm v1 (arc c (rd v1 i) q) ≠ 0) (hts : t = c.sink) :
    MPost c v x true (foundV v1 (rd v1 i) t) := by
  have htn : t ∉ v1.reached := by rw [hts]; exact h.sk
  have es : ∀ w, sn (foundV v1 (rd v1 i) t) w = if w = t then v1.mark else sn v1 w := fun w => getD_set (by rw [h.len.s]; exact ht)
  have el : ∀ w, lv (foundV v1 (rd v1 i) t) w = if w = t then lv v1 (rd v1 i) + 1 else lv v1 w := fun w => getD_set (by rw [h.len.l]; exact ht)
  have em : (foundV v1 (rd v1 i) t).mark = v1.mark := rfl
  have hne : ∀ w, w ∈ v1.reached → w ≠ t := fun w hw e => htn (e ▸ hw)
  have hN := h.length
  refine ⟨h.room, h.next, h.changed, h.mark, ⟨h.len.r, by simpa [foundV] using h.len.l, by simpa [foundV] using h.len.s, h.len.n⟩, fun w hw => ?_, ?_, fun w hw hs => ?_, fun u hu hs hux => ?_, h.lt, fun w hw hws hs => ?_, fun _ => ?_, fun e => by cases e⟩
  · rw [es, em]
    have := h.sb w hw
    split <;> omega
  · rw [es, em, if_neg (hne _ h.x0)]
    exact (h.iff x (h.lt x h.x0)).2 h.x0
  · rw [el]
    split
    · have := h.lev i hi
      omega
    · rename_i e
      rw [es, if_neg e] at hs
      exact h.LB w hw hs
  · rw [em] at hs
    by_cases e : u = t
    · subst e
      refine ⟨rd v1 i, q, h.lt _ (rd_mem hi), ?_, hq, htt, hr, ?_⟩
      · rw [es, em, if_neg (hne _ (rd_mem hi))]
        exact (h.iff _ (h.lt _ (rd_mem hi))).2 (rd_mem hi)
      · rw [el, el, if_pos rfl, if_neg (hne _ (rd_mem hi))]
    · rw [es, if_neg e] at hs
      obtain ⟨p, a, hp, ha, h1, h2, h3⟩ := h.tree u ((h.iff u hu).1 hs) hux
      refine ⟨p, a, h.lt _ hp, ?_, ha, h1, h2, ?_⟩
      · rw [es, em, if_neg (hne _ hp)]
        exact (h.iff _ (h.lt _ hp)).2 hp
      · rw [el, el, if_neg e, if_neg (hne _ hp)]
        exact h3
  · rw [es, em, if_neg (by rw [hts]; exact hws)] at hs
    exact (h.iff w hw).1 hs
  · rw [es, em, if_pos hts.symm]
theorem MI.stop {c : Net} {v v1 : NV} {x i q : Nat} (h : MI c v x v1 i q) (hi : v1.reached.length ≤ i) (hsk : c.sink < c.N) (hto : ∀ u, u < c.N → ∀ a, a < (c.og u).length → tt c (arc c u a) < c.N) : MPost c v x false v1 := by
  refine ⟨h.room, h.next, h.changed, h.mark, h.len, h.sb, (h.iff x (h.lt x h.x0)).2 h.x0, h.LB, fun u hu hs hux => ?_, h.lt, fun w hw _ hs => (h.iff w hw).1 hs, fun e => (by cases e), fun _ => ⟨fun e => h.sk ((h.iff _ hsk).1 e), fun u hu hs a ha hr => ?_⟩⟩
  · obtain ⟨p, a, hp, ha, h1, h2, h3⟩ := h.tree u ((h.iff u hu).1 hs) hux
    exact ⟨p, a, h.lt _ hp, (h.iff _ (h.lt _ hp)).2 hp, ha, h1, h2, h3⟩
  · obtain ⟨j, hj, e⟩ := mem_rd ((h.iff u hu).1 hs)
    subst e
    exact (h.iff _ (hto _ hu a ha)).2 (h.done j hj (by omega) a ha hr)
end Go.Proofs.Ybulkcejy
