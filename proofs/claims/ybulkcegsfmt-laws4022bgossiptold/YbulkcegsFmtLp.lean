import Derived.Test.YbulkcegsFmtChkB
import Derived.Maps.AppendAt
import Derived.Deep.LoopGhost
namespace Go.Proofs.YbulkcegsFmt
open Go.RowKit Go.Shelf Go.Extern.Stop Go.Stop Go.Extern
set_option linter.unusedVariables false

theorem merge_wp {c : Code} {P : Program} {Q : Exit → Act → World → Prop} {a : Act} {w : World} (R : Act → World → Prop) (h : c.wp P (fun e a' W' => e = .normal ∧ R a' W') a w) (k : ∀ A W, R A W → Q .normal A W) : c.wp P Q a w :=
  Code.wp_mono (by rintro e a' W' ⟨rfl, h⟩; exact k _ _ h) h

def MsgBox (W : World) (B : Nat) (x p : Bool) (st : Int) (b n : Nat) : Prop := W.cell? ⟨B, 0, none⟩ = some (.string (nm x)) ∧ W.cell? ⟨B, 1, none⟩ = some (.string (pn p)) ∧ W.cell? ⟨B, 2, none⟩ = some (.int .u64 st) ∧ W.cell? ⟨B, 3, none⟩ = some (.slice none 0 0)
  ∧ W.cell? ⟨B, 4, none⟩ = some (.slice none 0 0) ∧ W.cell? ⟨B, 5, none⟩ = some (.slice (some ⟨b, 0, none⟩) n n) ∧ W.cell? ⟨B, 6, none⟩ = some (.int .i64 0)

/-- A message as the law is handed it. -/
structure ZM where
  nd : Int
  pr : Int
  st : Int
  va : Option Addr
  vc : Nat
  xs : List Int
  ok : Bool
  hk : Bool
def ZM.v (m : ZM) : Value := .slice m.va m.xs.length m.vc
def ZM.x (m : ZM) : Bool := decide (m.nd.tmod 2 = 0)
def ZM.p (m : ZM) : Bool := !decide (m.pr.tmod 3 = 2)
def ZM.s (m : ZM) : Int := m.st.tmod 3

/-- What the walk is told of the messages' cells. -/
def InAt (w : World) (a0 : Option Addr) (len : Nat) (md : Nat → ZM) : Prop :=
  ∀ j, j < len → ∃ b off, a0 = some ⟨b, off, none⟩ ∧ w.cell? ⟨b, off + j * 6, none⟩ = some (.int .u8 (md j).nd) ∧ w.cell? ⟨b, off + j * 6 + 1, none⟩ = some (.int .u8 (md j).pr)
    ∧ w.cell? ⟨b, off + j * 6 + 2, none⟩ = some (.int .u64 (md j).st) ∧ w.cell? ⟨b, off + j * 6 + 3, none⟩ = some (md j).v
    ∧ w.cell? ⟨b, off + j * 6 + 4, none⟩ = some (.bool (md j).ok) ∧ w.cell? ⟨b, off + j * 6 + 5, none⟩ = some (.bool (md j).hk)
    ∧ BytesAt w (md j).v (md j).xs ∧ (md j).xs.length ≤ 140737488351232 ∧ 0 ≤ (md j).st ∧ (md j).st < 18446744073709551616
theorem InAt.below {w w' : World} {a0 : Option Addr} {len : Nat} {md : Nat → ZM} (h : InAt w a0 len md) (hb : Below w.heap.size w w') : InAt w' a0 len md := by
  intro j hj
  obtain ⟨b, off, e, h0, h1, h2, h3, h4, h5, h6, h7⟩ := h j hj
  have hl : b < w.heap.size := World.block_lt_of_cell? w _ h0
  have k : ∀ o, w'.cell? ⟨b, o, none⟩ = w.cell? ⟨b, o, none⟩ := fun o => hb.cell (p := ⟨b, o, none⟩) hl
  exact ⟨b, off, e, (k _).trans h0, (k _).trans h1, (k _).trans h2, (k _).trans h3, (k _).trans h4, (k _).trans h5, h6.below hb, h7⟩

def keysOf (md : Nat → ZM) : Nat → List Bool
  | 0 => []
  | j + 1 => keysOf md j ++ (if (md j).hk then [(md j).x] else [])
theorem keysOf_len (md : Nat → ZM) (j : Nat) : (keysOf md j).length ≤ j := by
  induction j with
  | zero => simp [keysOf]
  | succ j ih =>
    simp only [keysOf, List.length_append]
    split
    · simp
      omega
    · simp
      omega

structure L1 (w W : World) (len j k : Nat) (md : Nat → ZM) (kv : Value) : Prop where
  below : Below w.heap.size w W
  row : ∃ ys, W.ownsRow w.heap.size 36 1 (.slice (some ⟨w.heap.size, 0, none⟩) len len) len ys
  done : ∀ i, i < j → ∃ b, MsgAt W w.heap.size i (md i).x (md i).p (md i).s b ((md i).xs.length + 64) ∧ DataAt W b (md i).xs (md i).ok ∧ b ≠ w.heap.size ∧ kv.ownBlock ≠ some b
  keyed : W.ownsRow (w.heap.size + 1) 9 1 kv (keysOf md k).length ((keysOf md k).map fun x => .string (nm x))

theorem L1.lt {w W : World} {len j k : Nat} {md : Nat → ZM} {kv : Value} (h : L1 w W len j k md kv) : w.heap.size < W.heap.size := by
  obtain ⟨ys, hr⟩ := h.row
  exact (hr.lt _ rfl).2
theorem ownsRow_below {w w' : World} {base : Nat} {e : TypeId} {size : Nat} {v : Value} {n : Nat} {xs : List Value} (h : w.ownsRow base e size v n xs) (hb : Below w.heap.size w w') : w'.ownsRow base e size v n xs := by
  refine ⟨h.1, ?_⟩
  rcases h.2 with hn | ⟨g, cap, cur, rfl, hbb, hgg, rest⟩
  · exact .inl hn
  · exact .inr ⟨g, cap, cur, rfl, hbb, (hb.block g (Array.getElem?_eq_some_iff.1 hgg).1).trans hgg, rest⟩
theorem L1.grow {w W W' : World} {len j k : Nat} {md : Nat → ZM} {kv : Value} (h : L1 w W len j k md kv) (hb : Below W.heap.size W W') : L1 w W' len j k md kv := by
  obtain ⟨ys, hr⟩ := h.row
  have hlt := h.lt
  refine ⟨h.below.trans (hb.mono (by omega)), ⟨ys, ownsRow_below hr hb⟩, fun i hi => ?_, ownsRow_below h.keyed hb⟩
  obtain ⟨b, hm, hd, h1, h2⟩ := h.done i hi
  exact ⟨b, hm.below hb hlt, hd.below hb hd.2.2, h1, h2⟩
theorem L1.alloc {w W : World} {len j k : Nat} {md : Nat → ZM} {kv : Value} (h : L1 w W len j k md kv) (o : Obj) : L1 w (W.alloc o) len j k md kv := h.grow ((Below.refl _ _).alloc (Nat.le_refl _) _)

theorem set_other {W : World} {g i : Nat} {u : Value} {p : Addr} (hp : p.block ≠ g ∨ p.off ≠ i) : (W.setCell ⟨g, i, none⟩ u).cell? p = W.cell? p :=
  World.cell?_setCell_other _ _ _ _ (fun e => by rcases hp with h | h <;> exact h (by rw [← e]))
theorem DataAt.set {W : World} {b g i : Nat} {u : Value} {xs : List Int} {ok : Bool} (h : DataAt W b xs ok) (hb : b ≠ g) : DataAt (W.setCell ⟨g, i, none⟩ u) b xs ok :=
  ⟨fun i hi => (set_other (.inl hb)).trans (h.1 i hi), (set_other (.inl hb)).trans h.2.1, by simpa using h.2.2⟩
theorem DataAt.alloc {W : World} {b : Nat} {xs : List Int} {ok : Bool} (h : DataAt W b xs ok) (o : Obj) : DataAt (W.alloc o) b xs ok := h.below ((Below.refl _ _).alloc (Nat.le_refl _) _) h.2.2
theorem mb_of {W : World} {B : Nat} {x p : Bool} {st : Int} {b n : Nat} (h0 : W.cell? ⟨B, 0, none⟩ = some (.string (nm x))) (h1 : W.cell? ⟨B, 1, none⟩ = some (.string (pn p))) (h2 : W.cell? ⟨B, 2, none⟩ = some (.int .u64 st)) (h3 : W.cell? ⟨B, 3, none⟩ = some (.slice none 0 0)) (h4 : W.cell? ⟨B, 4, none⟩ = some (.slice none 0 0)) (h5 : W.cell? ⟨B, 5, none⟩ = some (.slice (some ⟨b, 0, none⟩) n n)) (h6 : W.cell? ⟨B, 6, none⟩ = some (.int .i64 0)) : MsgBox W B x p st b n := ⟨h0, h1, h2, h3, h4, h5, h6⟩
theorem L1.slot {w W : World} {len j k : Nat} {md : Nat → ZM} {kv : Value} (h : L1 w W len j k md kv) {i : Nat} (hi : i < len) : (∃ u, W.cell? ⟨w.heap.size, i, none⟩ = some u) ∧ W.frozen? ⟨w.heap.size, i, none⟩ = false := by
  obtain ⟨ys, hr⟩ := h.row
  have hl : ys.length = len := by rw [hr.1]; omega
  exact ⟨⟨ys[i], by rw [hr.cellAt i (by omega), List.getElem?_eq_getElem (by omega)]⟩, hr.frozenAt i⟩
theorem L1.put {w W : World} {len j k : Nat} {md : Nat → ZM} {kv : Value} (h : L1 w W len j k md kv) (hj : j < len) {b : Nat} (hd : DataAt W b (md j).xs (md j).ok) (hb : b ≠ w.heap.size) (hk : kv.ownBlock ≠ some b) :
    L1 w (W.setCell ⟨w.heap.size, j, none⟩ (.iface 34 (msgV (md j).x (md j).p (md j).s b ((md j).xs.length + 64)))) len (j + 1) k md kv := by
  obtain ⟨ys, hr⟩ := h.row
  have hst := hr.stored j (.iface 34 (msgV (md j).x (md j).p (md j).s b ((md j).xs.length + 64)))
  have hl : ys.length = len := by rw [hr.1]; omega
  refine ⟨h.below.setCell (p := ⟨w.heap.size, j, none⟩) (Nat.le_refl _) _, ⟨_, hst.1⟩, fun i hi => ?_, h.keyed.kept hst.2 ?_⟩
  · rcases Nat.lt_or_ge i j with hij | hij
    · obtain ⟨b', hm, hd', h1, h2⟩ := h.done i hij
      refine ⟨b', ?_, ⟨fun i hi => (set_other (.inl h1)).trans (hd'.1 i hi), (set_other (.inl h1)).trans hd'.2.1, by simpa using hd'.2.2⟩, h1, h2⟩
      exact (set_other (.inr (by show i ≠ j; omega))).trans hm
    · obtain rfl : i = j := by omega
      refine ⟨b, ?_, ⟨fun i hi => (set_other (.inl hb)).trans (hd.1 i hi), (set_other (.inl hb)).trans hd.2.1, by simpa using hd.2.2⟩, hb, hk⟩
      show World.cell? _ _ = _
      rw [hst.1.cellAt i (by omega), List.getElem?_set_self (by omega)]
  · cases e : kv.ownBlock with
    | none => exact .inl rfl
    | some g =>
      refine .inr fun e' => ?_
      have := (h.keyed.lt g e).1
      cases e'
      omega
theorem L1.skip {w W : World} {len j k : Nat} {md : Nat → ZM} {kv : Value} (h : L1 w W len j k md kv) (hk : (md k).hk = false) : L1 w W len j (k + 1) md kv := by
  refine ⟨h.below, h.row, h.done, ?_⟩
  have e : keysOf md (k + 1) = keysOf md k := by simp [keysOf, hk]
  rw [e]
  exact h.keyed
theorem grown_to_below {W W' : World} {row : Option Nat} (hg : W.grownBy W' row) {B : Nat} (hB : B ≤ W.heap.size) (hr : ∀ k, row = some k → B ≤ k) : Below B W W' := (Below.refl _ _).grown hg hB hr
theorem L1.add {w W W' : World} {len j k : Nat} {md : Nat → ZM} {kv kv' : Value} (h : L1 w W len j k md kv) (hk : (md k).hk = true)
    (ho : W'.ownsRow (w.heap.size + 1) 9 1 kv' ((keysOf md k).length + 1) (((keysOf md k).map fun x => .string (nm x)) ++ [.string (nm (md k).x)])) (hg : W.grownBy W' kv.ownBlock) (hat : kv'.ownBlock = kv.ownBlock ∨ kv'.ownBlock = some W.heap.size) :
    L1 w W' len j (k + 1) md kv' := by
  obtain ⟨ys, hr⟩ := h.row
  have hlt := h.lt
  have hkb : ∀ g, kv.ownBlock = some g → w.heap.size + 1 ≤ g := fun g e => (h.keyed.lt g e).1
  refine ⟨h.below.grown hg (by omega) (fun g e => by have := hkb g e; omega), ⟨ys, hr.kept hg (.inr fun e => by have := hkb _ e.symm; exact absurd this (Nat.not_succ_le_self _))⟩, fun i hi => ?_, ?_⟩
  · obtain ⟨b, hm, hd, h1, h2⟩ := h.done i hi
    refine ⟨b, hg.cell hm (fun e => by have := hkb _ e.symm; exact absurd this (Nat.not_succ_le_self _)), ⟨fun i hi => hg.cell (hd.1 i hi) (Ne.symm h2), hg.cell hd.2.1 (Ne.symm h2), Nat.lt_of_lt_of_le hd.2.2 hg.size⟩, h1, ?_⟩
    rcases hat with e | e
    · rw [e]
      exact h2
    · rw [e]
      intro e'
      have := hd.2.2
      cases e'
      omega
  · have e : keysOf md (k + 1) = keysOf md k ++ [(md k).x] := by simp [keysOf, hk]
    rw [e, List.length_append, List.map_append]
    exact ho
theorem L1.start {w W W2 : World} {len : Nat} {md : Nat → ZM} {ys : List Value} (hr : W.ownsRow w.heap.size 36 1 (.slice (some ⟨w.heap.size, 0, none⟩) len len) len ys) (hg : w.grownBy W none) : L1 w (W.alloc (.cells #[] 9)) len 0 0 md (.slice (some ⟨W.heap.size, 0, none⟩) 0 0) := by
  have hlt : w.heap.size < W.heap.size := (hr.lt _ rfl).2
  refine ⟨((Below.refl _ _).grown hg (Nat.le_refl _) (fun k e => by cases e)).alloc (by omega) _, ⟨ys, hr.alloc _⟩, fun i hi => absurd hi (by omega), ?_⟩
  exact World.ownsRow_lit W #[] 0 (by omega) (by unfold maxLen; omega) rfl
theorem L1.kv_form {w W : World} {len j k : Nat} {md : Nat → ZM} {kv : Value} (h : L1 w W len j k md kv) :
    ∃ a0 c, kv = .slice a0 (keysOf md k).length c ∧ (keysOf md k ≠ [] → ∃ g, a0 = some ⟨g, 0, none⟩ ∧ StrsAt W g (keysOf md k) ∧ g < W.heap.size) := by
  rcases h.keyed.2 with ⟨e, hn⟩ | ⟨g, cap, cur, e, _⟩
  · refine ⟨none, 0, by rw [e, hn], fun hk => absurd (List.eq_nil_of_length_eq_zero hn) hk⟩
  · refine ⟨some ⟨g, 0, none⟩, cap, e, fun hk => ⟨g, rfl, fun i hi => ?_, (h.keyed.lt g (by rw [e]; rfl)).2⟩⟩
    have hk2 := h.keyed
    rw [e] at hk2
    rw [hk2.cellAt i (by omega), List.getElem?_map, List.getElem?_eq_getElem hi]
    simp [List.getD, List.getElem?_eq_getElem hi]
end Go.Proofs.YbulkcegsFmt
