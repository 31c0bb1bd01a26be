import Derived.Test.YbulkcegsFmtGb
namespace Go.Proofs.YbulkcegsFmt
open Go.RowKit Go.Shelf Go.Extern.Stop Go.Stop Go.Extern
set_option linter.unusedVariables false

/-- A message stored in the row of mistakes: seven cells. -/
def set7 (W : World) (mb o : Nat) (v0 v1 v2 v3 v4 v5 v6 : Value) : World :=
  ((((((W.setCell ⟨mb, o, none⟩ v0).setCell ⟨mb, o + 1, none⟩ v1).setCell ⟨mb, o + 2, none⟩ v2).setCell ⟨mb, o + 3, none⟩ v3).setCell ⟨mb, o + 4, none⟩ v4).setCell ⟨mb, o + 5, none⟩ v5).setCell ⟨mb, o + 6, none⟩ v6
theorem set7_other {W : World} {mb o : Nat} {v0 v1 v2 v3 v4 v5 v6 : Value} {p : Addr} (h : p.block ≠ mb ∨ p.off < o ∨ o + 7 ≤ p.off) : (set7 W mb o v0 v1 v2 v3 v4 v5 v6).cell? p = W.cell? p := by
  unfold set7
  rw [set_other, set_other, set_other, set_other, set_other, set_other, set_other]
  all_goals
    rcases h with h | h
    · exact .inl h
    · refine .inr ?_
      omega
theorem set7_size {W : World} {mb o : Nat} {v0 v1 v2 v3 v4 v5 v6 : Value} : (set7 W mb o v0 v1 v2 v3 v4 v5 v6).heap.size = W.heap.size := by simp [set7]
theorem set7_mi {W : World} {mb i : Nat} {x p : Bool} {st : Int} {b n : Nat} (h : ∀ a, a < 7 → ∃ u, W.cell? ⟨mb, i * 7 + a, none⟩ = some u) :
    MiAt (set7 W mb (i * 7) (.string (nm x)) (.string (pn p)) (.int .u64 st) (.slice none 0 0) (.slice none 0 0) (.slice (some ⟨b, 0, none⟩) n n) (.int .i64 0)) mb i x p st b n := by
  obtain ⟨u0, h0⟩ := h 0 (by omega)
  obtain ⟨u1, h1⟩ := h 1 (by omega)
  obtain ⟨u2, h2⟩ := h 2 (by omega)
  obtain ⟨u3, h3⟩ := h 3 (by omega)
  obtain ⟨u4, h4⟩ := h 4 (by omega)
  obtain ⟨u5, h5⟩ := h 5 (by omega)
  obtain ⟨u6, h6⟩ := h 6 (by omega)
  simp only [Nat.add_zero] at h0
  have ne : ∀ {W : World} {a b : Nat} {u : Value}, a ≠ b → (W.setCell ⟨mb, i * 7 + a, none⟩ u).cell? ⟨mb, i * 7 + b, none⟩ = W.cell? ⟨mb, i * 7 + b, none⟩ := fun hab => set_other (.inr (by show i * 7 + _ ≠ i * 7 + _; omega))
  have ne0 : ∀ {W : World} {b : Nat} {u : Value}, 0 ≠ b → (W.setCell ⟨mb, i * 7, none⟩ u).cell? ⟨mb, i * 7 + b, none⟩ = W.cell? ⟨mb, i * 7 + b, none⟩ := fun hab => set_other (.inr (by show i * 7 + _ ≠ i * 7; omega))
  have nb0 : ∀ {W : World} {b : Nat} {u : Value}, 0 ≠ b → (W.setCell ⟨mb, i * 7 + b, none⟩ u).cell? ⟨mb, i * 7, none⟩ = W.cell? ⟨mb, i * 7, none⟩ := fun hab => set_other (.inr (by show i * 7 ≠ i * 7 + _; omega))
  unfold set7
  refine ⟨?_, ?_, ?_, ?_, ?_, ?_, ?_⟩
  · rw [nb0 (by omega), nb0 (by omega), nb0 (by omega), nb0 (by omega), nb0 (by omega), nb0 (by omega)]
    exact World.cell?_setCell_same' _ _ _ (by rw [h0]; rfl)
  · rw [ne (by omega), ne (by omega), ne (by omega), ne (by omega), ne (by omega)]
    exact World.cell?_setCell_same' _ _ _ (by rw [ne0 (by omega), h1]; rfl)
  · rw [ne (by omega), ne (by omega), ne (by omega), ne (by omega)]
    exact World.cell?_setCell_same' _ _ _ (by rw [ne (by omega), ne0 (by omega), h2]; rfl)
  · rw [ne (by omega), ne (by omega), ne (by omega)]
    exact World.cell?_setCell_same' _ _ _ (by rw [ne (by omega), ne (by omega), ne0 (by omega), h3]; rfl)
  · rw [ne (by omega), ne (by omega)]
    exact World.cell?_setCell_same' _ _ _ (by rw [ne (by omega), ne (by omega), ne (by omega), ne0 (by omega), h4]; rfl)
  · rw [ne (by omega)]
    exact World.cell?_setCell_same' _ _ _ (by rw [ne (by omega), ne (by omega), ne (by omega), ne (by omega), ne0 (by omega), h5]; rfl)
  · exact World.cell?_setCell_same' _ _ _ (by rw [ne (by omega), ne (by omega), ne (by omega), ne (by omega), ne (by omega), ne0 (by omega), h6]; rfl)
theorem set7_row {W : World} {base mb n cap o : Nat} {ys : List Value} {v0 v1 v2 v3 v4 v5 v6 : Value} (h : W.ownsRow base 34 7 (.slice (some ⟨mb, 0, none⟩) n cap) n ys) :
    (∃ zs, (set7 W mb o v0 v1 v2 v3 v4 v5 v6).ownsRow base 34 7 (.slice (some ⟨mb, 0, none⟩) n cap) n zs) ∧ W.grownBy (set7 W mb o v0 v1 v2 v3 v4 v5 v6) (some mb) := by
  have a0 := h.stored o v0
  have a1 := a0.1.stored (o + 1) v1
  have a2 := a1.1.stored (o + 2) v2
  have a3 := a2.1.stored (o + 3) v3
  have a4 := a3.1.stored (o + 4) v4
  have a5 := a4.1.stored (o + 5) v5
  have a6 := a5.1.stored (o + 6) v6
  have tr : ∀ {A B C : World} {r : Option Nat}, A.grownBy B r → B.grownBy C r → A.grownBy C r := fun h g => ⟨g.os.trans h.os, g.tape.trans h.tape, g.output.trans h.output, Nat.le_trans h.size g.size, fun k hk hr => (g.block k (Nat.lt_of_lt_of_le hk h.size) hr).trans (h.block k hk hr)⟩
  exact ⟨⟨_, a6.1⟩, tr a0.2 (tr a1.2 (tr a2.2 (tr a3.2 (tr a4.2 (tr a5.2 a6.2)))))⟩

structure G1 (w W : World) (mb len j k : Nat) (md : Nat → ZM) (k0 : List Bool) (kv : Value) : Prop where
  below : Below w.heap.size w W
  row : ∃ ys, W.ownsRow w.heap.size 34 7 (.slice (some ⟨mb, 0, none⟩) len len) len ys
  done : ∀ i, i < j → ∃ b, MiAt W mb i (md i).x (md i).p (md i).st b ((md i).xs.length + 64) ∧ DataAt W b (md i).xs (md i).ok ∧ b ≠ mb ∧ kv.ownBlock ≠ some b
  keyed : W.ownsRow w.heap.size 9 1 kv (k0 ++ keysOf md k).length ((k0 ++ keysOf md k).map fun x => .string (nm x))
  kne : kv.ownBlock ≠ some mb
theorem G1.mlt {w W : World} {mb len j k : Nat} {md : Nat → ZM} {k0 : List Bool} {kv : Value} (h : G1 w W mb len j k md k0 kv) : w.heap.size ≤ mb ∧ mb < W.heap.size := by
  obtain ⟨ys, hr⟩ := h.row
  exact hr.lt _ rfl
theorem G1.grow {w W W' : World} {mb len j k : Nat} {md : Nat → ZM} {k0 : List Bool} {kv : Value} (h : G1 w W mb len j k md k0 kv) (hb : Below W.heap.size W W') : G1 w W' mb len j k md k0 kv := by
  obtain ⟨ys, hr⟩ := h.row
  have hlt := h.mlt
  refine ⟨h.below.trans (hb.mono (by have := h.below.size; omega)), ⟨ys, ownsRow_below hr hb⟩, fun i hi => ?_, ownsRow_below h.keyed hb, h.kne⟩
  obtain ⟨b, hm, hd, h1, h2⟩ := h.done i hi
  exact ⟨b, hm.below hb hlt.2, hd.below hb hd.2.2, h1, h2⟩
theorem G1.alloc {w W : World} {mb len j k : Nat} {md : Nat → ZM} {k0 : List Bool} {kv : Value} (h : G1 w W mb len j k md k0 kv) (o : Obj) : G1 w (W.alloc o) mb len j k md k0 kv := h.grow ((Below.refl _ _).alloc (Nat.le_refl _) _)
theorem G1.slot {w W : World} {mb len j k : Nat} {md : Nat → ZM} {k0 : List Bool} {kv : Value} (h : G1 w W mb len j k md k0 kv) {i : Nat} (hi : i < len) (a : Nat) (ha : a < 7) : (∃ u, W.cell? ⟨mb, i * 7 + a, none⟩ = some u) ∧ W.frozen? ⟨mb, i * 7 + a, none⟩ = false := by
  obtain ⟨ys, hr⟩ := h.row
  have hl : ys.length = len * 7 := hr.1
  have hii : i * 7 + a < len * 7 := by omega
  exact ⟨⟨ys[i * 7 + a]'(by omega), by rw [hr.cellAt _ hii, List.getElem?_eq_getElem (by omega)]⟩, hr.frozenAt _⟩
theorem G1.put {w W : World} {mb len j k : Nat} {md : Nat → ZM} {k0 : List Bool} {kv : Value} (h : G1 w W mb len j k md k0 kv) (hj : j < len) {b : Nat} (hd : DataAt W b (md j).xs (md j).ok) (hb : b ≠ mb) (hk : kv.ownBlock ≠ some b) :
    G1 w (set7 W mb (j * 7) (.string (nm (md j).x)) (.string (pn (md j).p)) (.int .u64 (md j).st) (.slice none 0 0) (.slice none 0 0) (.slice (some ⟨b, 0, none⟩) ((md j).xs.length + 64) ((md j).xs.length + 64)) (.int .i64 0)) mb len (j + 1) k md k0 kv := by
  obtain ⟨ys, hr⟩ := h.row
  have hlt := h.mlt
  obtain ⟨hr2, hg⟩ := set7_row (o := j * 7) (v0 := .string (nm (md j).x)) (v1 := .string (pn (md j).p)) (v2 := .int .u64 (md j).st) (v3 := .slice none 0 0) (v4 := .slice none 0 0) (v5 := .slice (some ⟨b, 0, none⟩) ((md j).xs.length + 64) ((md j).xs.length + 64)) (v6 := .int .i64 0) hr
  have hD : ∀ {b' xs ok}, DataAt W b' xs ok → b' ≠ mb → DataAt (set7 W mb (j * 7) (.string (nm (md j).x)) (.string (pn (md j).p)) (.int .u64 (md j).st) (.slice none 0 0) (.slice none 0 0) (.slice (some ⟨b, 0, none⟩) ((md j).xs.length + 64) ((md j).xs.length + 64)) (.int .i64 0)) b' xs ok := by
    intro b' xs ok hd' hb'
    exact ⟨fun i hi => (set7_other (.inl hb')).trans (hd'.1 i hi), (set7_other (.inl hb')).trans hd'.2.1, by rw [set7_size]; exact hd'.2.2⟩
  refine ⟨h.below.grown hg h.below.size (fun g e => by cases e; exact hlt.1), hr2, fun i hi => ?_, h.keyed.kept hg ?_, h.kne⟩
  · rcases Nat.lt_or_ge i j with hij | hij
    · obtain ⟨b', ⟨m0, m1, m2, m3, m4, m5, m6⟩, hd', h1, h2⟩ := h.done i hij
      have c : ∀ a, a < 7 → (set7 W mb (j * 7) (.string (nm (md j).x)) (.string (pn (md j).p)) (.int .u64 (md j).st) (.slice none 0 0) (.slice none 0 0) (.slice (some ⟨b, 0, none⟩) ((md j).xs.length + 64) ((md j).xs.length + 64)) (.int .i64 0)).cell? ⟨mb, i * 7 + a, none⟩ = W.cell? ⟨mb, i * 7 + a, none⟩ := fun a ha => set7_other (.inr (.inl (by show i * 7 + a < j * 7; omega)))
      exact ⟨b', ⟨(c 0 (by omega)).trans m0, (c 1 (by omega)).trans m1, (c 2 (by omega)).trans m2, (c 3 (by omega)).trans m3, (c 4 (by omega)).trans m4, (c 5 (by omega)).trans m5, (c 6 (by omega)).trans m6⟩, hD hd' h1, h1, h2⟩
    · obtain rfl : i = j := by omega
      exact ⟨b, set7_mi (fun a ha => (h.slot hj a ha).1), hD hd hb, hb, hk⟩
  · exact .inr h.kne
theorem G1.skip {w W : World} {mb len j k : Nat} {md : Nat → ZM} {k0 : List Bool} {kv : Value} (h : G1 w W mb len j k md k0 kv) (hk : (md k).hk = false) : G1 w W mb len j (k + 1) md k0 kv := by
  refine ⟨h.below, h.row, h.done, ?_, h.kne⟩
  have e : keysOf md (k + 1) = keysOf md k := by simp [keysOf, hk]
  rw [e]
  exact h.keyed
theorem G1.add {w W W' : World} {mb len j k : Nat} {md : Nat → ZM} {k0 : List Bool} {kv kv' : Value} (h : G1 w W mb len j k md k0 kv) (hk : (md k).hk = true)
    (ho : W'.ownsRow w.heap.size 9 1 kv' ((k0 ++ keysOf md k).length + 1) (((k0 ++ keysOf md k).map fun x => .string (nm x)) ++ [.string (nm (md k).x)])) (hg : W.grownBy W' kv.ownBlock) (hat : kv'.ownBlock = kv.ownBlock ∨ kv'.ownBlock = some W.heap.size) :
    G1 w W' mb len j (k + 1) md k0 kv' := by
  obtain ⟨ys, hr⟩ := h.row
  have hlt := h.mlt
  have hkb : ∀ g, kv.ownBlock = some g → w.heap.size ≤ g := fun g e => (h.keyed.lt g e).1
  have nm' : ∀ {o : Nat}, some (⟨mb, o, none⟩ : Addr).block ≠ kv.ownBlock := Ne.symm h.kne
  have hc : ∀ {o : Nat} {v : Value}, W.cell? ⟨mb, o, none⟩ = some v → W'.cell? ⟨mb, o, none⟩ = some v := fun hv => hg.cell hv (Ne.symm h.kne)
  refine ⟨h.below.grown hg h.below.size hkb, ⟨ys, hr.kept hg (.inr (Ne.symm h.kne))⟩, fun i hi => ?_, ?_, ?_⟩
  · obtain ⟨b, ⟨m0, m1, m2, m3, m4, m5, m6⟩, hd, h1, h2⟩ := h.done i hi
    refine ⟨b, ⟨hc m0, hc m1, hc m2, hc m3, hc m4, hc m5, hc m6⟩, ⟨fun i hi => hg.cell (hd.1 i hi) (Ne.symm h2), hg.cell hd.2.1 (Ne.symm h2), Nat.lt_of_lt_of_le hd.2.2 hg.size⟩, h1, ?_⟩
    rcases hat with e | e
    · rw [e]
      exact h2
    · rw [e]
      intro e'
      have := hd.2.2
      cases e'
      omega
  · have e : k0 ++ keysOf md (k + 1) = (k0 ++ keysOf md k) ++ [(md k).x] := by simp [keysOf, hk]
    rw [e, List.length_append, List.map_append]
    exact ho
  · rcases hat with e | e
    · rw [e]
      exact h.kne
    · rw [e]
      intro e'
      cases e'
      omega
theorem G1.kv_form {w W : World} {mb len j k : Nat} {md : Nat → ZM} {k0 : List Bool} {kv : Value} (h : G1 w W mb len j k md k0 kv) :
    ∃ a0 c, kv = .slice a0 (k0 ++ keysOf md k).length c ∧ (k0 ++ keysOf md k ≠ [] → ∃ g, a0 = some ⟨g, 0, none⟩ ∧ StrsAt W g (k0 ++ keysOf md k) ∧ g < W.heap.size) := by
  rcases h.keyed.2 with ⟨e, hn⟩ | ⟨g, cap, cur, e, _⟩
  · refine ⟨none, 0, by rw [e, hn], fun hk => absurd (List.eq_nil_of_length_eq_zero hn) hk⟩
  · refine ⟨some ⟨g, 0, none⟩, cap, e, fun hk => ⟨g, rfl, fun i hi => ?_, (h.keyed.lt g (by rw [e]; rfl)).2⟩⟩
    have hk2 := h.keyed
    rw [e] at hk2
    rw [hk2.cellAt i (by omega), List.getElem?_map, List.getElem?_eq_getElem hi]
    simp [List.getD, List.getElem?_eq_getElem hi]
end Go.Proofs.YbulkcegsFmt
