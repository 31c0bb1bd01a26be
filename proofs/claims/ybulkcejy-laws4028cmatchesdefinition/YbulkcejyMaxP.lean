import Derived.Test.YbulkcejyMeas
namespace Go.Proofs.Ybulkcejy
set_option linter.unusedVariables false

/-- The flow, as far as it has come: f sent, p searches. -/
structure FI (c : Net) (v : NV) (x : Nat) (v1 : NV) (f p : Nat) : Prop where
  len : Len c v1
  rmn : RM c v1
  cb : CB c v1
  sb : ∀ w, w < c.N → sn v1 w ≤ v1.mark
  xs : ∀ S : Nat → Bool, S x = true → S c.sink = false → X c.A (tt c) S (rm v1) = X c.A (tt c) S (rm v) - f
  un : undo v1.changed v1.room = v.room
  cl : v1.changed.length ≤ 2 * (c.N + 1) * f
  mks : v.mark ≤ v1.mark ∧ v1.mark ≤ v.mark + p
structure PH (c : Net) (x : Nat) (v1 : NV) : Prop where
  lb : LB c v1
  nb : NB c v1
  sx : sn v1 x = v1.mark
def FlowRes (c : Net) (v : NV) (x : Nat) (limit f : Nat) : Prop := ∃ r : Nat → Int, (∀ S : Nat → Bool, S x = true → S c.sink = false → X c.A (tt c) S r = X c.A (tt c) S (rm v) - f) ∧ (∀ a, a < c.A → 0 ≤ r a) ∧ f ≤ limit ∧ (f = limit ∨ ∃ S : Nat → Bool, S x = true ∧ S c.sink = false ∧ X c.A (tt c) S r = 0)

theorem FI.start {c : Net} {v : NV} (x : Nat) (hl : Len c v) (hr : RM c v) (hs : ∀ w, w < c.N → sn v w ≤ v.mark) (hch : v.changed = []) : FI c v x v 0 0 :=
  ⟨hl, hr, fun p hp => (by rw [hch] at hp; exact absurd hp (by simp)), hs, fun S _ _ => by simp, by rw [hch]; rfl, by rw [hch]; simp, by omega⟩
theorem FI.meas {c : Net} {v v1 v2 : NV} {x f p : Nat} {b : Bool} (h : FI c v x v1 f p) (hm : MPost c v1 x b v2) : FI c v x v2 f (p + 1) := by
  have er : rm v2 = rm v1 := funext fun a => by unfold rm; rw [hm.room]
  refine ⟨hm.len, fun a ha => by rw [er]; exact h.rmn a ha, fun q hq => h.cb q (by rw [← hm.changed]; exact hq), hm.sb, fun S h1 h2 => by rw [er]; exact h.xs S h1 h2, by rw [hm.changed, hm.room]; exact h.un, by rw [hm.changed]; exact h.cl, ?_⟩
  have := h.mks
  rw [hm.mark]
  omega
theorem FI.next {c : Net} {v v1 : NV} {x f p : Nat} (h : FI c v x v1 f p) {ys : List Int} (hy : ys.length = c.N) : FI c v x { v1 with next := ys } f p :=
  ⟨⟨h.len.r, h.len.l, h.len.s, hy⟩, h.rmn, h.cb, h.sb, h.xs, h.un, h.cl, h.mks⟩
theorem FI.mono {c : Net} {v v1 : NV} {x f p p' : Nat} (h : FI c v x v1 f p) (hp : p ≤ p') : FI c v x v1 f p' :=
  { h with mks := by have := h.mks; omega }
theorem FI.aug {c : Net} {v v1 v2 : NV} {x f p : Nat} {most sent : Int} (h : FI c v x v1 f p) (ha : AugPost c v1 x (c.N + 1) most sent v2) : FI c v x v2 (f + sent.toNat) p := by
  have es : ∀ w, sn v2 w = sn v1 w := fun w => by unfold sn; rw [ha.seen]
  have h0 := ha.s0.1
  refine ⟨ha.len, ha.rmn, ha.cb, fun w hw => by rw [es, ha.mark]; exact h.sb w hw, fun S h1 h2 => ?_, by rw [ha.un]; exact h.un, ?_, by rw [ha.mark]; exact h.mks⟩
  · rw [ha.x S h2, h.xs S h1 h2, h1]
    have : b2i true = 1 := rfl
    rw [this]
    omega
  · rcases Int.lt_or_eq_of_le h0 with q | q
    · have h1 := ha.cl
      have h2 := h.cl
      have h3 : 2 * (c.N + 1) * (f + 1) ≤ 2 * (c.N + 1) * (f + sent.toNat) := Nat.mul_le_mul_left _ (by omega)
      have h4 : 2 * (c.N + 1) * (f + 1) = 2 * (c.N + 1) * f + 2 * (c.N + 1) := by rw [Nat.mul_add, Nat.mul_one]
      omega
    · have := (ha.zero q.symm).2
      rw [this, ← q]
      exact h.cl
theorem PH.aug {c : Net} {v1 v2 : NV} {x : Nat} {most sent : Int} {k : Nat} (h : PH c x v1) (ha : AugPost c v1 x k most sent v2) : PH c x v2 := by
  have es : ∀ w, sn v2 w = sn v1 w := fun w => by unfold sn; rw [ha.seen]
  have el : ∀ w, lv v2 w = lv v1 w := fun w => by unfold lv; rw [ha.level]
  exact ⟨fun w hw hs => by rw [el]; exact h.lb w hw (by rw [← es, hs, ha.mark]), ha.nb, by rw [es, ha.mark]; exact h.sx⟩
/-- next, set back for the nodes that the search has reached. -/
theorem PH.start {c : Net} {v v2 : NV} {x : Nat} {b : Bool} (h : MPost c v x b v2) {ys : List Int} (hz : ∀ j, j < v2.reached.length → ys.getD (rd v2 j) 0 = 0) : PH c x { v2 with next := ys } ∧ ∀ w, w < c.N → w ≠ c.sink → sn v2 w = v2.mark → nx { v2 with next := ys } w = 0 := by
  have h0 : ∀ w, w < c.N → w ≠ c.sink → sn v2 w = v2.mark → nx { v2 with next := ys } w = 0 := fun w hw hws hs => by
    obtain ⟨j, hj, e⟩ := mem_rd (h.rin w hw hws hs)
    have := hz j hj
    rw [e] at this
    exact this
  exact ⟨⟨h.lb, fun w hw hws hs => by rw [h0 w hw hws hs]; omega, h.sx⟩, h0⟩
theorem FI.full {c : Net} {v v1 : NV} {x f p limit : Nat} (h : FI c v x v1 f p) (hf : f = limit) : FlowRes c v x limit f :=
  ⟨rm v1, h.xs, fun a ha => (h.rmn a ha).1, by omega, .inl hf⟩
theorem FI.cut {c : Net} (hc : WFc c) (hog : ∀ a, a < c.A → ∃ u i, u < c.N ∧ i < (c.og u).length ∧ arc c u i = a) {v v1 v2 : NV} {x f p limit : Nat} (h : FI c v x v1 f p) (hf : f ≤ limit) (hm : MPost c v1 x false v2) : FlowRes c v x limit f := by
  have h2 := h.meas hm
  obtain ⟨n1, n2⟩ := hm.no rfl
  exact ⟨rm v2, h2.xs, fun a ha => (h2.rmn a ha).1, hf, .inr ⟨fun u => decide (sn v2 u = v2.mark), decide_eq_true hm.sx, decide_eq_false n1, seen_cut hc hog n2⟩⟩

/-- The log, newest first, with the indices. -/
def bk (ch : List (Nat × Int)) : List (Nat × Nat × Int) := (List.range ch.length).reverse.map fun i => (i, ch.getD i (0, 0))
theorem bk_len (ch : List (Nat × Int)) : (bk ch).length = ch.length := by simp [bk]
theorem bk_get {ch : List (Nat × Int)} {k : Nat} (h : k < ch.length) : (bk ch)[k]? = some (ch.length - 1 - k, ch.getD (ch.length - 1 - k) (0, 0)) := by
  unfold bk
  rw [List.getElem?_map, List.getElem?_reverse (by simpa using h)]
  simp
  rw [List.getElem?_range (by omega)]
  exact ⟨_, rfl, rfl, rfl⟩
theorem bk_snd (ch : List (Nat × Int)) : (bk ch).map (·.2) = ch.reverse := by
  apply List.ext_getElem?
  intro i
  rcases Nat.lt_or_ge i ch.length with h | h
  · rw [List.getElem?_map, bk_get h, List.getElem?_reverse h]
    simp [List.getD, List.getElem?_eq_getElem (show ch.length - 1 - i < ch.length by omega)]
  · rw [List.getElem?_eq_none (by simpa [bk_len] using h), List.getElem?_eq_none (by simpa using h)]
/-- The room, once so much of the log has been written back. -/
def wrote (xs : List (Nat × Nat × Int)) (room : List Int) : List Int := xs.foldl (fun r p => r.set p.2.1 p.2.2) room
theorem wrote_len (xs : List (Nat × Nat × Int)) : ∀ room, (wrote xs room).length = room.length := by
  induction xs with
  | nil => intro r; rfl
  | cons p xs ih => intro r; unfold wrote at *; rw [List.foldl_cons, ih]; simp
theorem wrote_snoc (xs : List (Nat × Nat × Int)) (p : Nat × Nat × Int) (room : List Int) : wrote (xs ++ [p]) room = (wrote xs room).set p.2.1 p.2.2 := by simp [wrote, List.foldl_append]
theorem wrote_bk (ch : List (Nat × Int)) (room : List Int) : wrote (bk ch) room = undo ch room := by
  unfold undo wrote
  rw [← bk_snd, List.foldl_map]
theorem bk_take {ch : List (Nat × Int)} {k : Nat} (h : k < ch.length) : (bk ch).take (k + 1) = (bk ch).take k ++ [(ch.length - 1 - k, ch.getD (ch.length - 1 - k) (0, 0))] := by
  rw [List.take_add_one, bk_get h]
  rfl
end Go.Proofs.Ybulkcejy
