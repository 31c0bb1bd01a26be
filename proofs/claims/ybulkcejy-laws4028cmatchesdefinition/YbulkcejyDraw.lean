import Derived.StillTail
import Derived.OrdersHeld
import Derived.Deep.RegionHeld3
namespace Go.Proofs.Ybulkcejy
open Go

section
variable {P : Program} {ops : Array Oper} {Q : Exit → Act → World → Prop} {md : Region.Mode} {S : World → Prop}

/-- Whatever order is picked: while any but the last is still to come; S behind each. -/
def wpM (P : Program) (md : Region.Mode) (ops : Array Oper) (Q : Exit → Act → World → Prop) (S : World → Prop) (m : Nat) (L : Array Bool → Act → World → Prop) : Nat → Array Bool → Act → World → Prop
  | 0, listed, a, w => L listed a w
  | f + 1, listed, a, w => Region.ready md ops listed ≠ [] ∧ ∀ i ∈ Region.ready md ops listed, i < m ∧ wpOp P ops Q i (fun a' w' => S w' ∧ wpM P md ops Q S m L f (listed.setIfInBounds i true) a' w') a w

theorem wpAny_of_M {m g : Nat} {L : Array Bool → Act → World → Prop} (hL : ∀ listed a w, L listed a w → wpAny P md ops Q g listed a w) :
    ∀ (f : Nat) (listed : Array Bool) (a : Act) (w : World), wpM P md ops Q S m L f listed a w → wpAny P md ops Q (f + g) listed a w
  | 0, listed, a, w, h => by rw [Nat.zero_add]; exact hL _ _ _ h
  | f + 1, listed, a, w, h => by
    rw [show f + 1 + g = (f + g) + 1 by omega]
    exact ⟨fun h0 => absurd h0 h.1, fun i hi => wpOp_mono (fun a' w' h' => wpAny_of_M hL f _ a' w' h'.2) (h.2 i hi).2⟩

theorem wpM_first {m i : Nat} {oi : Oper} {v : Value} {L : Array Bool → Act → World → Prop} (hi : ops[i]? = some oi) (hsel : ∀ (j : Nat) (o : Oper) cs b, ops[j]? = some o → o.op ≠ .select cs b)
    (hQ : ∀ c a d v w, Q (.panic c) (a.put d v) w → Q (.panic c) a w)
    (hs : Region.sinkB md ops m = true) (hc : Region.chainB md ops m = true) (hn : m < ops.size) (hin : i < m)
    (hdone : ∀ listed a w, L listed a w → ∀ j ∈ Region.ready md ops listed, m ≤ j) :
    ∀ (f : Nat) (listed : Array Bool) (a : Act) (w : World), HeadInv md ops m listed →
      (∀ j oj, ops[j]? = some oj → j ≠ i → listed.getD j true = false → (∀ e ∈ oj.after, Region.binds md e = true → e.on ≠ i) → oi.apart ops oj = true) →
      i ∈ Region.ready md ops listed → YieldsIf P ops S oi v a → S w →
      wpM P md ops Q S m L f (listed.setIfInBounds i true) (a.put oi.dst v) w → wpM P md ops Q S m L (f + 1) listed a w := by
  intro f
  induction f with
  | zero =>
    intro listed a w inv _ hr hy hS H
    have hun := (mem_ready.1 hr).1
    refine ⟨fun h => (by rw [h] at hr; cases hr), fun j hj => ?_⟩
    have hjn : j < m := Nat.lt_of_not_le fun h => absurd hj (tail_waits hs hc hn inv _ i rfl hin hun j h)
    refine ⟨hjn, ?_⟩
    by_cases hji : j = i
    · subst hji; exact hy.wpOp hi hS ⟨hS, H⟩
    · have := hdone _ _ _ H j (ready_mono hj hji)
      omega
  | succ f ih =>
    intro listed a w inv hfree hr hy hS H
    have hun := (mem_ready.1 hr).1
    refine ⟨fun h => (by rw [h] at hr; cases hr), fun j hj => ?_⟩
    have hjn : j < m := Nat.lt_of_not_le fun h => absurd hj (tail_waits hs hc hn inv _ i rfl hin hun j h)
    refine ⟨hjn, ?_⟩
    by_cases hji : j = i
    · subst hji; exact hy.wpOp hi hS ⟨hS, H⟩
    · have h1 := (H.2 j (ready_mono hj hji)).2
      obtain ⟨hjun, oj, hoj, hall⟩ := mem_ready.1 hj
      have hnot : ∀ e ∈ oj.after, Region.binds md e = true → e.on ≠ i := fun e he hb heq => by
        have h1 := hall e he hb
        rw [heq, getD_both hun] at h1
        cases h1
      have h2 := wpOp_putIf hoj (hfree j oj hoj hji hjun hnot) (fun cs b => hsel i oi cs b hi) (fun cs b => hsel j oj cs b hoj) (fun c a w h => hQ c a _ _ w h) hy h1
      have hfree' : ∀ k ok, ops[k]? = some ok → k ≠ i → (listed.setIfInBounds j true).getD k true = false →
          (∀ e ∈ ok.after, Region.binds md e = true → e.on ≠ i) → oi.apart ops ok = true := fun k ok hk hki hun hno => by
        refine hfree k ok hk hki ?_ hno
        by_cases hjk : j = k
        · subst hjk; exact hjun
        · rw [getD_set_ne true hjk] at hun; exact hun
      refine wpOp_mono (fun a' w' h3 => ⟨h3.2.1, ih (listed.setIfInBounds j true) a' w' (inv.set hj hjn) hfree' (ready_mono hr (Ne.symm hji)) h3.1 h3.2.1 ?_⟩) h2
      rw [Array.setIfInBounds_comm _ _ hji]
      exact h3.2.2

/-- The head's operations, in the text's order: each yields its value in every world that meets S. -/
def wpHeld (P : Program) (ops : Array Oper) (S : World → Prop) (Lq : Act → Prop) : List Oper → Act → Prop
  | [], a => Lq a
  | o :: rest, a => ∃ v, YieldsIf P ops S o v a ∧ wpHeld P ops S Lq rest (a.put o.dst v)
theorem wpHeld_nil {Lq : Act → Prop} {a : Act} (h : Lq a) : wpHeld P ops S Lq [] a := h
theorem wpHeld_step {Lq : Act → Prop} {a : Act} {o : Oper} {rest : List Oper} (v : Value) (hw : Region.wanted o (yielded ops a.tmps) = true)
    (hy : ∀ w, S w → (execOp a.eval o).run P w = .ok (.value v) w) (h : wpHeld P ops S Lq rest (a.put o.dst v)) : wpHeld P ops S Lq (o :: rest) a := ⟨v, .inl ⟨hw, hy⟩, h⟩

/-- The middle's operations, one behind the other; S behind each. -/
def wpMid (P : Program) (ops : Array Oper) (Q : Exit → Act → World → Prop) (S : World → Prop) (Lst : Act → World → Prop) : List Oper → Act → World → Prop
  | [], a, w => Lst a w
  | o :: rest, a, w => if Region.wanted o (yielded ops a.tmps) then o.wp P a w (fun a' w' => S w' ∧ wpMid P ops Q S Lst rest a' w') Q else S w ∧ wpMid P ops Q S Lst rest (a.put o.dst undef) w
theorem wpMid_nil {Lst : Act → World → Prop} {a : Act} {w : World} (h : Lst a w) : wpMid P ops Q S Lst [] a w := h
theorem wpMid_step {Lst : Act → World → Prop} {a : Act} {w : World} {o : Oper} {rest : List Oper} (hw : Region.wanted o (yielded ops a.tmps) = true)
    (h : ∀ K : Act → World → Prop, Shut (∀ a' w', S w' → (S w' → wpMid P ops Q S Lst rest a' w') → K a' w') → o.wp P a w K Q) : wpMid P ops Q S Lst (o :: rest) a w := by
  unfold wpMid
  rw [if_pos hw]
  exact h _ (fun a' w' hS hW => ⟨hS, hW hS⟩)

def seqM (md : Region.Mode) (ops : Array Oper) : Nat → Nat → Array Bool → Bool
  | 0, k, listed => decide (Region.ready md ops listed = [k]) && (Region.ready md ops (listed.setIfInBounds k true)).isEmpty
  | g + 1, k, listed => decide (Region.ready md ops listed = [k]) && seqM md ops g (k + 1) (listed.setIfInBounds k true)
def lexM (md : Region.Mode) (ops : Array Oper) (g : Nat) : Nat → Nat → Array Bool → Bool
  | 0, k, listed => seqM md ops g k listed
  | f + 1, k, listed => (Region.ready md ops listed).contains k && Region.free md ops listed k && lexM md ops g f (k + 1) (listed.setIfInBounds k true)
/-- n reads, g operations in the middle, one at the end. -/
def drawB (md : Region.Mode) (ops : Array Oper) (n g : Nat) : Bool :=
  Region.noSelect ops && decide (n + g + 1 = ops.size) && Region.sinkB md ops (n + g) && Region.chainB md ops (n + g) && lexM md ops g n 0 (Array.replicate ops.size false)

/-- What is left for the last one. -/
def LastM (P : Program) (md : Region.Mode) (ops : Array Oper) (Q : Exit → Act → World → Prop) (m : Nat) (listed : Array Bool) (a : Act) (w : World) : Prop :=
  Region.ready md ops listed = [m] ∧ Region.ready md ops (listed.setIfInBounds m true) = [] ∧ wpOp P ops Q m (Q .normal) a w

theorem wpM_mid {m : Nat} : ∀ (l : List Oper) (k : Nat) (listed : Array Bool) (a : Act) (w : World), (∀ j, j < l.length → l[j]? = ops[k + j]?) → k + l.length = m →
    seqM md ops l.length k listed = true → wpMid P ops Q S (fun a' w' => wpOp P ops Q m (Q .normal) a' w') l a w → wpM P md ops Q S m (LastM P md ops Q m) l.length listed a w
  | [], k, listed, a, w, _, hk, hB, h => by
    have : k = m := by simpa using hk
    subst this
    simp only [List.length_nil, seqM, Bool.and_eq_true, decide_eq_true_eq, List.isEmpty_iff] at hB
    exact ⟨hB.1, hB.2, h⟩
  | o :: l, k, listed, a, w, hl, hk, hB, h => by
    have h0 : ops[k]? = some o := by simpa using (hl 0 (by simp)).symm
    simp only [List.length_cons, seqM, Bool.and_eq_true, decide_eq_true_eq] at hB
    refine ⟨by rw [hB.1]; simp, fun i hi => ?_⟩
    rw [hB.1] at hi
    have hik : i = k := by simpa using hi
    subst hik
    refine ⟨by simp only [List.length_cons] at hk; omega, ?_⟩
    have ih := fun (a' : Act) (w' : World) => wpM_mid (m := m) l (i + 1) (listed.setIfInBounds i true) a' w' (fun j hj => by have := hl (j + 1) (by simp; omega); simpa [Nat.add_assoc, Nat.add_comm 1 j] using this) (by simp only [List.length_cons] at hk; omega) hB.2
    unfold wpMid at h
    unfold wpOp
    simp only [h0]
    split
    · rename_i hw
      rw [if_pos hw] at h
      exact .inl (Oper.wp_mono (fun a' w' h' => ⟨h'.1, ih a' w' h'.2⟩) h)
    · rename_i hw
      rw [if_neg hw] at h
      exact ⟨h.1, ih _ _ h.2⟩

theorem seqM_ready {g k : Nat} {listed : Array Bool} (h : seqM md ops g k listed = true) : Region.ready md ops listed = [k] := by
  cases g <;> simp only [seqM, Bool.and_eq_true, decide_eq_true_eq] at h <;> exact h.1

theorem wpM_lex {m g : Nat} (hsel : Region.noSelect ops = true) (hQ : ∀ c a d v w, Q (.panic c) (a.put d v) w → Q (.panic c) a w) (hs : Region.sinkB md ops m = true) (hc : Region.chainB md ops m = true) (hn : m < ops.size)
    {L : Array Bool → Act → World → Prop} (hdone : ∀ listed a w, L listed a w → ∀ j ∈ Region.ready md ops listed, m ≤ j) {Lq : Act → Prop} {f : Nat} {w : World} (hS : S w) {n : Nat}
    (hM : ∀ listed a, seqM md ops g n listed = true → Lq a → wpM P md ops Q S m L f listed a w) (hnm : n ≤ m) :
    ∀ (l : List Oper) (k : Nat) (listed : Array Bool) (a : Act), (∀ j, j < l.length → l[j]? = ops[k + j]?) → k + l.length = n → HeadInv md ops m listed →
    lexM md ops g l.length k listed = true → wpHeld P ops S Lq l a → wpM P md ops Q S m L (l.length + f) listed a w
  | [], k, listed, a, _, hk, _, hB, h => by
    have : k = n := by simpa using hk
    subst this
    rw [List.length_nil, Nat.zero_add]
    exact hM _ _ (by simpa [lexM] using hB) h
  | o :: l, k, listed, a, hl, hk, inv, hB, h => by
    have h0 : ops[k]? = some o := by simpa using (hl 0 (by simp)).symm
    simp only [List.length_cons, lexM, Bool.and_eq_true] at hB
    obtain ⟨⟨hr, hf⟩, hB'⟩ := hB
    have hkn : k < m := by simp only [List.length_cons] at hk; omega
    have hr' : k ∈ Region.ready md ops listed := by simpa using hr
    obtain ⟨v, hy, hK⟩ := h
    rw [List.length_cons, show l.length + 1 + f = (l.length + f) + 1 by omega]
    exact wpM_first h0 (Region.noSelect_spec hsel) hQ hs hc hn hkn hdone (l.length + f) listed a w inv (Region.free_spec h0 hf) hr' hy hS
      (wpM_lex hsel hQ hs hc hn hdone hS hM hnm l (k + 1) _ _ (fun j hj => by have := hl (j + 1) (by simp; omega); simpa [Nat.add_assoc, Nat.add_comm 1 j] using this) (by simp only [List.length_cons] at hk; omega) (inv.set hr' hkn) hB' hK)

/-- A region that draws: n reads under S, g operations that turn the world and keep S, and one at the end. -/
theorem wp_draw0 {id : Nat} {a : Act} {w : World} {l : List Oper} (n g : Nat) (hm : P.follows .mixedOrders = true) (hB : drawB .any l.toArray n g = true)
    (hQ : ∀ c a d v w, Q (.panic c) (a.put d v) w → Q (.panic c) a w) (S : World → Prop) (hS : S w.drew)
    (h : wpHeld P l.toArray S (fun a' => wpMid P l.toArray Q S (fun a'' w'' => wpList P l.toArray Q (l.drop (n + g)) a'' w'') ((l.drop n).take g) a' w.drew) (l.take n) a) : (Code.region id l.toArray true).wp P Q a w := by
  simp only [drawB, Bool.and_eq_true, decide_eq_true_eq] at hB
  obtain ⟨⟨⟨⟨hsel, hn⟩, hs⟩, hc⟩, hlex⟩ := hB
  have hn' : n + g + 1 = l.length := by simpa using hn
  have htl : (l.take n).length = n := by simp; omega
  have hdl : ((l.drop n).take g).length = g := by simp; omega
  have hlast : l.drop (n + g) = [l[n + g]'(by omega)] := by
    rw [List.drop_eq_getElem_cons (by omega), List.drop_eq_nil_of_le (by omega)]
  have h0 : l.toArray[n + g]? = some (l[n + g]'(by omega)) := by simp
  have inv0 : HeadInv .any l.toArray (n + g) (Array.replicate l.toArray.size false) :=
    ⟨by simp, fun j oj _ hl => (by rw [getD_replicate_false] at hl; cases hl), fun t _ ht => getD_in (by simpa using ht) (getD_replicate_false _ _)⟩
  refine wp_region_any hm ?_
  have H := wpM_lex (md := .any) (g := g) (m := n + g) (f := g) (n := n) (L := LastM P .any l.toArray Q (n + g)) (w := w.drew) hsel hQ hs hc (by omega) (fun listed a w hL j hj => by rw [hL.1] at hj; simp at hj; omega) hS
    (fun listed a' hB2 hLq => by
      have := wpM_mid (P := P) (Q := Q) (S := S) (md := .any) (ops := l.toArray) (m := n + g) ((l.drop n).take g) n listed a' w.drew (fun j hj => by
        have hj' : j < g := by rw [hdl] at hj; exact hj
        simp [hj']) (by rw [hdl]) (by rw [hdl]; exact hB2) hLq
      rw [hdl] at this
      exact this) (by omega) (l.take n) 0 (Array.replicate l.toArray.size false) a (fun j hj => by
        have hj' : j < n := by rw [htl] at hj; exact hj
        simp [hj']) (by simpa using htl) inv0 (by rw [htl]; exact hlex) (by
          refine cast ?_ h
          congr 1
          funext a'
          congr 1
          funext a'' w''
          rw [hlast]
          unfold wpList wpOp
          simp only [h0]
          rfl)
  have := wpAny_of_M (g := 1) (Q := Q) (fun listed a' w' hL => by
    refine ⟨fun h1 => (by rw [hL.1] at h1; cases h1), fun i hi => ?_⟩
    rw [hL.1] at hi
    have hik : i = n + g := by simpa using hi
    subst hik
    exact wpOp_mono (fun a'' w'' h'' => ⟨hL.2.1, h''⟩) hL.2.2) _ _ _ _ H
  rw [htl, show n + g + 1 = l.toArray.size by simp; omega] at this
  exact this
theorem wp_draw {id : Nat} {a : Act} {w : World} {l : List Oper} (n g : Nat) (hm : P.follows .mixedOrders = true) (hB : drawB .any l.toArray n g = true)
    (S : World → Prop) (hS : S w.drew)
    (h : ∀ ops, wpHeld P ops S (fun a' => wpMid P ops (NoPanic Q) S (fun a'' w'' => wpList P ops (NoPanic Q) (l.drop (n + g)) a'' w'') ((l.drop n).take g) a' w.drew) (l.take n) a) : (Code.region id l.toArray true).wp P Q a w :=
  wp_region_noPanic (wp_draw0 n g hm hB (fun _ _ _ _ _ h => h) S hS (h _))
end
end Go.Proofs.Ybulkcejy
