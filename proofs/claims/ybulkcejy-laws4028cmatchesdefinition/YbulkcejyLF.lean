import Derived.Test.YbulkcejyMod
namespace Go.Proofs.Ybulkcejy
open Go.RowKit
set_option linter.unusedVariables false

def tyG (l : Nat) : Nat := if l = 0 then 34 else if l = 1 then 37 else if l = 2 then 37 else if l = 3 then 27 else if l = 4 then 39 else if 50 ≤ l then 4 else 3
theorem tyG_row {u : Nat} (h : u < 10) : tyG (10 + u) = 3 := by unfold tyG; rw [if_neg (by omega), if_neg (by omega), if_neg (by omega), if_neg (by omega), if_neg (by omega), if_neg (by omega)]
theorem tyG_row3 {u : Nat} (h : u < 10) : tyG (30 + u) = 3 := by unfold tyG; rw [if_neg (by omega), if_neg (by omega), if_neg (by omega), if_neg (by omega), if_neg (by omega), if_neg (by omega)]
theorem tyG_has (u : Nat) : tyG (50 + u) = 4 := by unfold tyG; rw [if_neg (by omega), if_neg (by omega), if_neg (by omega), if_neg (by omega), if_neg (by omega), if_pos (by omega)]
theorem HP.add {L : Nat} {W : World} {blk : Nat → Option Nat} {cont : Nat → List Value} {cp ty : Nat → Nat} (h : HP L W blk cont cp ty) {l b : Nat} (hb : L ≤ b) (hfree : ∀ l', blk l' ≠ some b) {cur : Array Value} {t : Nat} (ht : ty l = t) (hn : W.heap[b]? = some (.cells cur t (0, 0))) {xs : List Value} (hx : cur.toList = xs) :
    HP L W (updF blk l (some b)) (updF cont l xs) (updF cp l xs.length) ty := by
  refine ⟨fun l' b' hb' => ?_, fun l1 l2 b' h1 h2 => ?_⟩
  · by_cases e : l' = l
    · subst e
      rw [updF_same] at hb'
      cases hb'
      exact ⟨hb, cur, by rw [ht]; exact hn, by rw [updF_same, ← hx]; simp, [], by rw [updF_same, hx]; simp⟩
    · rw [updF_ne _ _ e] at hb'
      rw [updF_ne _ _ e, updF_ne _ _ e]
      exact h.at' l' b' hb'
  · by_cases e1 : l1 = l
    · by_cases e2 : l2 = l
      · rw [e1, e2]
      · subst e1
        rw [updF_same] at h1
        rw [updF_ne _ _ e2] at h2
        cases h1
        exact absurd h2 (hfree l2)
    · rw [updF_ne _ _ e1] at h1
      by_cases e2 : l2 = l
      · subst e2
        rw [updF_same] at h2
        cases h2
        exact absurd h1 (hfree l1)
      · rw [updF_ne _ _ e2] at h2
        exact h.inj l1 l2 b' h1 h2
theorem HP.none (L : Nat) (W : World) (ty : Nat → Nat) : HP L W (fun _ => none) (fun _ => []) (fun _ => 0) ty := ⟨fun l b h => (by cases h), fun l l' b h => (by cases h)⟩

def lstB (ts : List (Nat × Nat)) (x : Nat) : List Nat := (List.range ts.length).filter (fun k => (ts.getD k (0, 0)).1 == x)
def hasB (ts : List (Nat × Nat)) (a b : Nat) : Bool := ts.any (fun t => t.1 == a && t.2 == b)
theorem lst_snoc (ts : List (Nat × Nat)) (a b x : Nat) : lst (ts ++ [(a, b)]) x = if b = x then lst ts x ++ [ts.length] else lst ts x := by
  unfold lst
  rw [List.length_append, List.length_singleton, List.range_succ, List.filter_append]
  have e1 : (List.range ts.length).filter (fun k => ((ts ++ [(a, b)]).getD k (0, 0)).2 == x) = (List.range ts.length).filter (fun k => (ts.getD k (0, 0)).2 == x) := by
    apply List.filter_congr
    intro k hk
    have := List.mem_range.1 hk
    simp only [List.getD, List.getElem?_append_left this]
  rw [e1]
  have e2 : (ts ++ [(a, b)]).getD ts.length (0, 0) = (a, b) := by simp [List.getD]
  simp only [List.filter_cons, List.filter_nil, e2]
  by_cases h : b = x
  · simp [h]
  · simp [h]
theorem lstB_snoc (ts : List (Nat × Nat)) (a b x : Nat) : lstB (ts ++ [(a, b)]) x = if a = x then lstB ts x ++ [ts.length] else lstB ts x := by
  unfold lstB
  rw [List.length_append, List.length_singleton, List.range_succ, List.filter_append]
  have e1 : (List.range ts.length).filter (fun k => ((ts ++ [(a, b)]).getD k (0, 0)).1 == x) = (List.range ts.length).filter (fun k => (ts.getD k (0, 0)).1 == x) := by
    apply List.filter_congr
    intro k hk
    have := List.mem_range.1 hk
    simp only [List.getD, List.getElem?_append_left this]
  rw [e1]
  have e2 : (ts ++ [(a, b)]).getD ts.length (0, 0) = (a, b) := by simp [List.getD]
  simp only [List.filter_cons, List.filter_nil, e2]
  by_cases h : a = x
  · simp [h]
  · simp [h]
theorem hasB_snoc (ts : List (Nat × Nat)) (a b x y : Nat) : hasB (ts ++ [(a, b)]) x y = (hasB ts x y || (a == x && b == y)) := by simp [hasB, List.any_append]
theorem hasB_mem {ts : List (Nat × Nat)} {a b : Nat} : hasB ts a b = true ↔ (a, b) ∈ ts := by
  unfold hasB
  rw [List.any_eq_true]
  constructor
  · rintro ⟨⟨x, y⟩, h, e⟩
    simp at e
    rw [← e.1, ← e.2]
    exact h
  · intro h
    exact ⟨(a, b), h, by simp⟩
def flatT (ts : List (Nat × Nat)) : List Value := ts.flatMap fun t => [nv t.1, nv t.2]
theorem flatT_len (ts : List (Nat × Nat)) : (flatT ts).length = ts.length * 2 := by
  induction ts with
  | nil => rfl
  | cons p xs ih => simp only [flatT, List.flatMap_cons, List.length_append, List.length_cons, List.length_nil] at ih ⊢; omega
theorem flatT_get (xs : List (Nat × Nat)) : ∀ i, i < xs.length → (flatT xs)[i * 2]? = some (nv (xs.getD i (0, 0)).1) ∧ (flatT xs)[i * 2 + 1]? = some (nv (xs.getD i (0, 0)).2) := by
  induction xs with
  | nil => intro i hi; simp at hi
  | cons p xs ih =>
    intro i hi
    have e : flatT (p :: xs) = [nv p.1, nv p.2] ++ flatT xs := rfl
    rw [e]
    cases i with
    | zero => exact ⟨rfl, rfl⟩
    | succ i =>
      have := ih i (by simpa using hi)
      rw [show (i + 1) * 2 = i * 2 + 2 by omega, show i * 2 + 2 + 1 = (i * 2 + 1) + 2 by omega]
      exact this

/-- The law's own graph. -/
structure GD where
  n : Nat
  gb : Nat
  bb : Nat
  fb : Nat
  hb : Nat
  ua : Option Addr
  uc : Nat
  f1 : Value
  tv : Value
  bv : Nat → Value
  fv : Nat → Value
  hr : Nat → Nat
def gC (d : GD) : List Value := [.slice d.ua d.n d.uc, d.f1, d.tv, .slice (some ⟨d.bb, 0, none⟩) d.n d.n, .slice (some ⟨d.fb, 0, none⟩) d.n d.n, .slice none 0 0]
/-- by: the rows of testsBy and testsOf, has, and tests: each as far as it has come. -/
structure LF (L : Nat) (W : World) (d : GD) (tb tf th ts : List (Nat × Nat)) (blk : Nat → Option Nat) (cont : Nat → List Value) (cp : Nat → Nat) : Prop where
  hp : HP L W blk cont cp tyG
  LW : L ≤ W.heap.size
  n10 : d.n ≤ 10
  b0 : blk 0 = some d.gb
  b1 : blk 1 = some d.bb
  b2 : blk 2 = some d.fb
  b3 : blk 3 = some d.hb
  k0 : cont 0 = gC d
  k1 : cont 1 = (List.range d.n).map d.bv
  k2 : cont 2 = (List.range d.n).map d.fv
  k3 : cont 3 = (List.range d.n).map fun u => .slice (some ⟨d.hr u, 0, none⟩) d.n d.n
  s4 : SlV blk cont cp 4 2 d.tv ts.length
  k4 : cont 4 = flatT ts
  kb : ∀ u, u < d.n → SlV blk cont cp (10 + u) 1 (d.bv u) (lstB tb u).length ∧ cont (10 + u) = (lstB tb u).map nv
  kf : ∀ u, u < d.n → SlV blk cont cp (30 + u) 1 (d.fv u) (lst tf u).length ∧ cont (30 + u) = (lst tf u).map nv
  kh : ∀ u, u < d.n → blk (50 + u) = some (d.hr u) ∧ cont (50 + u) = (List.range d.n).map fun v => .bool (hasB th u v)
theorem set_range {α : Type} {n u : Nat} (hu : u < n) (f g : Nat → α) (x : α) (h1 : g u = x) (h2 : ∀ w, w < n → w ≠ u → g w = f w) : ((List.range n).map f).set u x = (List.range n).map g := by
  apply List.ext_getElem?
  intro i
  rw [List.getElem?_set]
  simp only [List.getElem?_map, List.length_map, List.length_range]
  by_cases hi : i < n
  · rw [List.getElem?_range hi]
    by_cases e : u = i
    · subst e
      simp [hu, h1]
    · simp [e, h2 i hi (Ne.symm e)]
  · rw [List.getElem?_eq_none (by simpa using hi)]
    have : u ≠ i := by omega
    simp [this]
variable {L : Nat} {W : World} {d : GD} {tb tf th ts : List (Nat × Nat)} {blk : Nat → Option Nat} {cont : Nat → List Value} {cp : Nat → Nat}
theorem LF.grow (h : LF L W d tb tf th ts blk cont cp) {W' : World} (hb : Below W.heap.size W W') : LF L W' d tb tf th ts blk cont cp := { h with hp := h.hp.grow hb, LW := Nat.le_trans h.LW hb.size }
theorem LF.field (h : LF L W d tb tf th ts blk cont cp) {i : Nat} {x : Value} (hx : (gC d)[i]? = some x) : W.cell? ⟨d.gb, i, none⟩ = some x := h.hp.read h.b0 (by rw [h.k0]; exact hx)
theorem LF.hasRow (h : LF L W d tb tf th ts blk cont cp) {u : Nat} (hu : u < d.n) : W.cell? ⟨d.hb, u, none⟩ = some (.slice (some ⟨d.hr u, 0, none⟩) d.n d.n) := h.hp.read h.b3 (by rw [h.k3]; simp [hu])
theorem LF.hasAt (h : LF L W d tb tf th ts blk cont cp) {u v : Nat} (hu : u < d.n) (hv : v < d.n) : W.cell? ⟨d.hr u, v, none⟩ = some (.bool (hasB th u v)) := h.hp.read (h.kh u hu).1 (by rw [(h.kh u hu).2]; simp [hv])
theorem LF.hasFz (h : LF L W d tb tf th ts blk cont cp) {u : Nat} (hu : u < d.n) (v : Nat) : W.frozen? ⟨d.hr u, v, none⟩ = false := h.hp.frozen (h.kh u hu).1 v
/-- has[a][b] = true. -/
theorem LF.mark (h : LF L W d tb tf th ts blk cont cp) {a b : Nat} (ha : a < d.n) (hb : b < d.n) :
    (∃ cont', LF L (W.setCell ⟨d.hr a, b, none⟩ (.bool true)) d tb tf (th ++ [(a, b)]) ts blk cont' cp) ∧ Below L W (W.setCell ⟨d.hr a, b, none⟩ (.bool true)) := by
  have hN := h.n10
  have hs := h.hp.store (h.kh a ha).1 (i := b) (by rw [(h.kh a ha).2]; simpa using hb) (.bool true)
  rw [(h.kh a ha).2] at hs
  have n0 : ∀ {l : Nat}, l < 50 → updF cont (50 + a) (((List.range d.n).map fun v => .bool (hasB th a v)).set b (.bool true)) l = cont l := fun h1 => updF_ne _ _ (by omega)
  refine ⟨⟨_, hs, by simpa using h.LW, h.n10, h.b0, h.b1, h.b2, h.b3, (n0 (by omega)).trans h.k0, (n0 (by omega)).trans h.k1, (n0 (by omega)).trans h.k2, (n0 (by omega)).trans h.k3, h.s4.stored (fun e => absurd e (by omega)), (n0 (by omega)).trans h.k4, fun u hu => ⟨(h.kb u hu).1.stored (fun e => absurd e (by omega)), (n0 (by omega)).trans (h.kb u hu).2⟩, fun u hu => ⟨(h.kf u hu).1.stored (fun e => absurd e (by omega)), (n0 (by omega)).trans (h.kf u hu).2⟩, fun u hu => ⟨(h.kh u hu).1, ?_⟩⟩, h.hp.storeBelow (h.kh a ha).1 b _⟩
  by_cases e : u = a
  · subst e
    rw [updF_same]
    refine set_range hb _ _ _ (by rw [hasB_snoc]; simp) (fun w hw hne => ?_)
    rw [hasB_snoc]
    have : (b == w) = false := by simpa using Ne.symm hne
    simp [this]
  · rw [updF_ne _ _ (by omega), (h.kh u hu).2]
    apply List.map_congr_left
    intro v _
    rw [hasB_snoc]
    have : (a == u) = false := by simpa using Ne.symm e
    simp [this]
theorem LF.ownsBy (h : LF L W d tb tf th ts blk cont cp) {u : Nat} (hu : u < d.n) : W.ownsRow L 3 1 (d.bv u) (lstB tb u).length ((lstB tb u).map nv) := by
  have h1 := h.n10
  have := (h.kb u hu).1.owns h.hp
  rw [(h.kb u hu).2, tyG_row (by omega)] at this
  exact this
theorem LF.ownsOf (h : LF L W d tb tf th ts blk cont cp) {u : Nat} (hu : u < d.n) : W.ownsRow L 3 1 (d.fv u) (lst tf u).length ((lst tf u).map nv) := by
  have h1 := h.n10
  have := (h.kf u hu).1.owns h.hp
  rw [(h.kf u hu).2, tyG_row3 (by omega)] at this
  exact this
theorem LF.ownsT (h : LF L W d tb tf th ts blk cont cp) : W.ownsRow L 39 2 d.tv ts.length (flatT ts) := by
  have := h.s4.owns h.hp
  rw [h.k4] at this
  exact this
/-- testsBy[u] = append(testsBy[u], k). -/
theorem LF.pushBy (h : LF L W d tb tf th ts blk cont cp) {u : Nat} (hu : u < d.n) {W' : World} {v' : Value} {y : Nat}
    (ho : W'.ownsRow L 3 1 v' ((lstB tb u).length + 1) ((lstB tb u).map nv ++ [nv tb.length])) (hg : W.grownBy W' (d.bv u).ownBlock) (hat : v'.ownBlock = (d.bv u).ownBlock ∨ v'.ownBlock = some W.heap.size) :
    (∃ blk' cont' cp', LF L (W'.setCell ⟨d.bb, u, none⟩ v') { d with bv := updF d.bv u v' } (tb ++ [(u, y)]) tf th ts blk' cont' cp') ∧ Below L W (W'.setCell ⟨d.bb, u, none⟩ v') := by
  have hN := h.n10
  obtain ⟨q1, q2⟩ := h.kb u hu
  obtain ⟨hb, b', k, hp, hs⟩ := h.hp.append q1 (m := 1) (news := [nv tb.length]) (by omega) h.LW (by rw [q2, tyG_row (by omega)]; exact ho) hg hat
  have nb : ∀ {l : Nat}, l ≠ 10 + u → updF blk (10 + u) (some b') l = blk l := fun h1 => updF_ne _ _ h1
  have hb1 := (nb (l := 1) (by omega)).trans h.b1
  have e0 : updF cont (10 + u) (cont (10 + u) ++ [nv tb.length]) 1 = (List.range d.n).map d.bv := by rw [updF_ne _ _ (by omega)]; exact h.k1
  have hs2 := hp.store hb1 (i := u) (by rw [e0]; simpa using hu) v'
  rw [e0] at hs2
  have n0 : ∀ {l : Nat}, l ≠ 1 → l ≠ 10 + u → updF (updF cont (10 + u) (cont (10 + u) ++ [nv tb.length])) 1 (((List.range d.n).map d.bv).set u v') l = cont l := fun h1 h2 => by rw [updF_ne _ _ h1, updF_ne _ _ h2]
  have n2 : updF (updF cont (10 + u) (cont (10 + u) ++ [nv tb.length])) 1 (((List.range d.n).map d.bv).set u v') (10 + u) = cont (10 + u) ++ [nv tb.length] := by rw [updF_ne _ _ (by omega), updF_same]
  refine ⟨⟨_, _, _, hs2, ?_, h.n10, (nb (by omega)).trans h.b0, hb1, (nb (by omega)).trans h.b2, (nb (by omega)).trans h.b3, (n0 (by omega) (by omega)).trans h.k0, ?_, (n0 (by omega) (by omega)).trans h.k2, (n0 (by omega) (by omega)).trans h.k3, (h.s4.other (by omega)).stored (fun e => absurd e (by omega)), (n0 (by omega) (by omega)).trans h.k4, fun w hw => ?_, fun w hw => ?_, fun w hw => ?_⟩, hb.trans ?_⟩
  · have := hg.size
    have := h.LW
    simp
    omega
  · rw [updF_same]
    exact set_range hu _ _ _ (updF_same _ _ _) (fun w _ hne => updF_ne _ _ hne)
  · have hw' : w < d.n := hw
    show SlV _ _ _ (10 + w) 1 (updF d.bv u v' w) _ ∧ _
    rw [lstB_snoc]
    by_cases e : w = u
    · subst e
      rw [if_pos rfl, updF_same]
      refine ⟨?_, by rw [n2, q2]; simp⟩
      have e9 : (lstB tb w ++ [tb.length]).length = (lstB tb w).length + 1 := List.length_append
      rw [e9]
      exact hs.stored (l2 := 1) (fun e => absurd e (by omega))
    · rw [if_neg (Ne.symm e), updF_ne _ _ e]
      obtain ⟨p1, p2⟩ := h.kb w hw'
      exact ⟨(p1.other (by omega)).stored (fun e => absurd e (by omega)), (n0 (by omega) (by omega)).trans p2⟩
  · have hw' : w < d.n := hw
    obtain ⟨p1, p2⟩ := h.kf w hw'
    exact ⟨(p1.other (by omega)).stored (fun e => absurd e (by omega)), (n0 (by omega) (by omega)).trans p2⟩
  · have hw' : w < d.n := hw
    obtain ⟨p1, p2⟩ := h.kh w hw'
    exact ⟨(nb (by omega)).trans p1, (n0 (by omega) (by omega)).trans p2⟩
  · exact hp.storeBelow hb1 u v'
/-- testsOf[u] = append(testsOf[u], k). -/
theorem LF.pushOf (h : LF L W d tb tf th ts blk cont cp) {u : Nat} (hu : u < d.n) {W' : World} {v' : Value} {y : Nat}
    (ho : W'.ownsRow L 3 1 v' ((lst tf u).length + 1) ((lst tf u).map nv ++ [nv tf.length])) (hg : W.grownBy W' (d.fv u).ownBlock) (hat : v'.ownBlock = (d.fv u).ownBlock ∨ v'.ownBlock = some W.heap.size) :
    (∃ blk' cont' cp', LF L (W'.setCell ⟨d.fb, u, none⟩ v') { d with fv := updF d.fv u v' } tb (tf ++ [(y, u)]) th ts blk' cont' cp') ∧ Below L W (W'.setCell ⟨d.fb, u, none⟩ v') := by
  have hN := h.n10
  obtain ⟨q1, q2⟩ := h.kf u hu
  obtain ⟨hb, b', k, hp, hs⟩ := h.hp.append q1 (m := 1) (news := [nv tf.length]) (by omega) h.LW (by rw [q2, tyG_row3 (by omega)]; exact ho) hg hat
  have nb : ∀ {l : Nat}, l ≠ 30 + u → updF blk (30 + u) (some b') l = blk l := fun h1 => updF_ne _ _ h1
  have hb1 := (nb (l := 2) (by omega)).trans h.b2
  have e0 : updF cont (30 + u) (cont (30 + u) ++ [nv tf.length]) 2 = (List.range d.n).map d.fv := by rw [updF_ne _ _ (by omega)]; exact h.k2
  have hs2 := hp.store hb1 (i := u) (by rw [e0]; simpa using hu) v'
  rw [e0] at hs2
  have n0 : ∀ {l : Nat}, l ≠ 2 → l ≠ 30 + u → updF (updF cont (30 + u) (cont (30 + u) ++ [nv tf.length])) 2 (((List.range d.n).map d.fv).set u v') l = cont l := fun h1 h2 => by rw [updF_ne _ _ h1, updF_ne _ _ h2]
  have n2 : updF (updF cont (30 + u) (cont (30 + u) ++ [nv tf.length])) 2 (((List.range d.n).map d.fv).set u v') (30 + u) = cont (30 + u) ++ [nv tf.length] := by rw [updF_ne _ _ (by omega), updF_same]
  refine ⟨⟨_, _, _, hs2, ?_, h.n10, (nb (by omega)).trans h.b0, (nb (by omega)).trans h.b1, hb1, (nb (by omega)).trans h.b3, (n0 (by omega) (by omega)).trans h.k0, (n0 (by omega) (by omega)).trans h.k1, ?_, (n0 (by omega) (by omega)).trans h.k3, (h.s4.other (by omega)).stored (fun e => absurd e (by omega)), (n0 (by omega) (by omega)).trans h.k4, fun w hw => ?_, fun w hw => ?_, fun w hw => ?_⟩, hb.trans ?_⟩
  · have := hg.size
    have := h.LW
    simp
    omega
  · rw [updF_same]
    exact set_range hu _ _ _ (updF_same _ _ _) (fun w _ hne => updF_ne _ _ hne)
  · have hw' : w < d.n := hw
    obtain ⟨p1, p2⟩ := h.kb w hw'
    exact ⟨(p1.other (by omega)).stored (fun e => absurd e (by omega)), (n0 (by omega) (by omega)).trans p2⟩
  · have hw' : w < d.n := hw
    show SlV _ _ _ (30 + w) 1 (updF d.fv u v' w) _ ∧ _
    rw [lst_snoc]
    by_cases e : w = u
    · subst e
      rw [if_pos rfl, updF_same]
      refine ⟨?_, by rw [n2, q2]; simp⟩
      have e9 : (lst tf w ++ [tf.length]).length = (lst tf w).length + 1 := List.length_append
      rw [e9]
      exact hs.stored (l2 := 2) (fun e => absurd e (by omega))
    · rw [if_neg (Ne.symm e), updF_ne _ _ e]
      obtain ⟨p1, p2⟩ := h.kf w hw'
      exact ⟨(p1.other (by omega)).stored (fun e => absurd e (by omega)), (n0 (by omega) (by omega)).trans p2⟩
  · have hw' : w < d.n := hw
    obtain ⟨p1, p2⟩ := h.kh w hw'
    exact ⟨(nb (by omega)).trans p1, (n0 (by omega) (by omega)).trans p2⟩
  · exact hp.storeBelow hb1 u v'
/-- tests = append(tests, t). -/
theorem LF.pushT (h : LF L W d tb tf th ts blk cont cp) {W' : World} {v' : Value} {x y : Nat}
    (ho : W'.ownsRow L 39 2 v' (ts.length + 1) (flatT ts ++ [nv x, nv y])) (hg : W.grownBy W' d.tv.ownBlock) (hat : v'.ownBlock = d.tv.ownBlock ∨ v'.ownBlock = some W.heap.size) :
    (∃ blk' cont' cp', LF L (W'.setCell ⟨d.gb, 2, none⟩ v') { d with tv := v' } tb tf th (ts ++ [(x, y)]) blk' cont' cp') ∧ Below L W (W'.setCell ⟨d.gb, 2, none⟩ v') := by
  have hN := h.n10
  obtain ⟨hb, b', k, hp, hs⟩ := h.hp.append h.s4 (m := 1) (news := [nv x, nv y]) (by omega) h.LW (by rw [h.k4]; exact ho) hg hat
  have nb : ∀ {l : Nat}, l ≠ 4 → updF blk 4 (some b') l = blk l := fun h1 => updF_ne _ _ h1
  have hb0 := (nb (l := 0) (by omega)).trans h.b0
  have e0 : updF cont 4 (cont 4 ++ [nv x, nv y]) 0 = gC d := by rw [updF_ne _ _ (by omega)]; exact h.k0
  have hs2 := hp.store hb0 (i := 2) (by rw [e0]; simp [gC]) v'
  rw [e0] at hs2
  have n0 : ∀ {l : Nat}, l ≠ 0 → l ≠ 4 → updF (updF cont 4 (cont 4 ++ [nv x, nv y])) 0 ((gC d).set 2 v') l = cont l := fun h1 h2 => by rw [updF_ne _ _ h1, updF_ne _ _ h2]
  have n2 : updF (updF cont 4 (cont 4 ++ [nv x, nv y])) 0 ((gC d).set 2 v') 4 = cont 4 ++ [nv x, nv y] := by rw [updF_ne _ _ (by omega), updF_same]
  refine ⟨⟨_, _, _, hs2, ?_, h.n10, hb0, (nb (by omega)).trans h.b1, (nb (by omega)).trans h.b2, (nb (by omega)).trans h.b3, by rw [updF_same]; rfl, (n0 (by omega) (by omega)).trans h.k1, (n0 (by omega) (by omega)).trans h.k2, (n0 (by omega) (by omega)).trans h.k3, ?_, by rw [n2, h.k4]; simp [flatT], fun w hw => ?_, fun w hw => ?_, fun w hw => ?_⟩, hb.trans ?_⟩
  · have := hg.size
    have := h.LW
    simp
    omega
  · have e9 : (ts ++ [(x, y)]).length = ts.length + 1 := List.length_append
    rw [e9]
    exact hs.stored (l2 := 0) (fun e => absurd e (by omega))
  · have hw' : w < d.n := hw
    obtain ⟨p1, p2⟩ := h.kb w hw'
    exact ⟨(p1.other (by omega)).stored (fun e => absurd e (by omega)), (n0 (by omega) (by omega)).trans p2⟩
  · have hw' : w < d.n := hw
    obtain ⟨p1, p2⟩ := h.kf w hw'
    exact ⟨(p1.other (by omega)).stored (fun e => absurd e (by omega)), (n0 (by omega) (by omega)).trans p2⟩
  · have hw' : w < d.n := hw
    obtain ⟨p1, p2⟩ := h.kh w hw'
    exact ⟨(nb (by omega)).trans p1, (n0 (by omega) (by omega)).trans p2⟩
  · exact hp.storeBelow hb0 2 v'
/-- The graph as Diagnosability sees it. -/
theorem LF.graph (h : LF L W d ts ts ts ts blk cont cp) : ∃ ta tbk tc, d.tv = .slice ta ts.length tc ∧ GraphAt W.heap.size W d.gb d.n ts d.ua d.uc ta tbk tc d.fb := by
  have g0 := (h.hp.lt h.b0).2
  have g2 := (h.hp.lt h.b2).2
  have rows : ∀ x, x < d.n → ∃ ra rb rc, W.cell? ⟨d.fb, x, none⟩ = some (.slice ra (lst ts x).length rc) ∧ rb < W.heap.size ∧ ∀ j, j < (lst ts x).length → ra = some ⟨rb, 0, none⟩ ∧ W.cell? ⟨rb, j, none⟩ = some (.int .i64 ((lst ts x).getD j 0 : Int)) := fun x hx => by
    have hc : W.cell? ⟨d.fb, x, none⟩ = some (d.fv x) := h.hp.read h.b2 (by rw [h.k2]; simp [hx])
    rcases (h.kf x hx).1.2 with ⟨e, e2, _⟩ | ⟨b, cap, e, hb, _⟩
    · exact ⟨none, d.gb, 0, by rw [hc, e, e2], g0, fun j hj => absurd hj (by omega)⟩
    · refine ⟨some ⟨b, 0, none⟩, b, cap, by rw [hc, e], (h.hp.lt hb).2, fun j hj => ⟨rfl, h.hp.read hb (by rw [(h.kf x hx).2]; exact getD_map_nv hj)⟩⟩
  rcases h.s4.2 with ⟨e, e2, _⟩ | ⟨b, cap, e, hb, _⟩
  · refine ⟨none, d.gb, 0, by rw [e, e2], ⟨g0, g0, g2⟩, h.field (i := 0) rfl, by have := h.field (i := 2) rfl; rw [e] at this; rw [e2]; exact this, fun k hk => absurd hk (by omega), h.field (i := 4) rfl, rows⟩
  · exact ⟨some ⟨b, 0, none⟩, b, cap, e, ⟨g0, (h.hp.lt hb).2, g2⟩, h.field (i := 0) rfl, by have := h.field (i := 2) rfl; rw [e] at this; exact this, fun k hk => ⟨rfl, h.hp.read hb (by rw [h.k4]; exact (flatT_get ts k hk).1), h.hp.read hb (by rw [h.k4]; exact (flatT_get ts k hk).2)⟩, h.field (i := 4) rfl, rows⟩
end Go.Proofs.Ybulkcejy
