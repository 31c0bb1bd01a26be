import Derived.Test.YbulkcejyCnw
import Derived.Test.YbulkcejyMax
namespace Go.Proofs.Ybulkcejy
open Go.RowKit
set_option linter.unusedVariables false

def setX (c : Net) (l : Nat) (xs : List Value) : Net := { c with xc := updF c.xc l xs }
theorem NF.setX {L : Nat} {W : World} {B : Nat → Nat} {c : Net} {v : NV} {rv cv : Value} {blk : Nat → Option Nat} {cont : Nat → List Value} {cp : Nat → Nat} (h : NF L W B c v rv cv blk cont cp) (hN : c.N ≤ 100) {l b i : Nat} (hl : 1000 ≤ l) (hb : c.xb l = some b) (hi : i < (c.xc l).length) (x : Value) :
    St L B (Ybulkcejy.setX c l ((c.xc l).set i x)) v (W.setCell ⟨b, i, none⟩ x) ∧ Below L W (W.setCell ⟨b, i, none⟩ x) := by
  have hbl := (h.ex l hl).1.trans hb
  have hp := h.hp.store hbl (i := i) (by rw [(h.ex l hl).2.1]; exact hi) x
  rw [(h.ex l hl).2.1] at hp
  have n0 : ∀ {k : Nat}, k < 1000 → updF cont l ((c.xc l).set i x) k = cont k := fun hk => updF_ne _ _ (by omega)
  refine ⟨⟨_, _, _, _, _, hp, by simpa using h.LW, fun k hk => ?_, h.bl, (n0 (by omega)).trans h.k0, (n0 (by omega)).trans h.k1, fun u hu => ?_, (n0 (by omega)).trans h.k2, h.l2, (n0 (by omega)).trans h.k3, h.l3, (n0 (by omega)).trans h.k4, h.l4, (n0 (by omega)).trans h.k5, h.l5, (n0 (by omega)).trans h.k6, h.l6, h.s7.stored (fun e => absurd e (by omega)), (n0 (by omega)).trans h.k7, h.s8.stored (fun e => absurd e (by omega)), (n0 (by omega)).trans h.k8⟩, h.hp.storeBelow hbl i x⟩
  · show _ = c.xb k ∧ _ = updF c.xc l _ k ∧ _ = c.xp k
    have := h.ex k hk
    by_cases e : k = l
    · subst e
      rw [updF_same, updF_same]
      exact ⟨this.1, rfl, this.2.2⟩
    · rw [updF_ne _ _ e, updF_ne _ _ e]
      exact this
  · have hu' : u < c.N := hu
    exact ⟨(h.ks u hu).1.stored (fun e => absurd e (by omega)), (n0 (by omega)).trans (h.ks u hu).2⟩
theorem NF.xfz {L : Nat} {W : World} {B : Nat → Nat} {c : Net} {v : NV} {rv cv : Value} {blk : Nat → Option Nat} {cont : Nat → List Value} {cp : Nat → Nat} (h : NF L W B c v rv cv blk cont cp) {l b : Nat} (i : Nat) (hl : 1000 ≤ l) (hb : c.xb l = some b) : W.frozen? ⟨b, i, none⟩ = false := h.hp.frozen ((h.ex l hl).1.trans hb) i

/-- What stays while the units are tried. -/
structure DC (n : Nat) (ts : List (Nat × Nat)) (sb tr x : Nat) (c : Net) : Prop where
  N : c.N = 2 * n + 1
  A : c.A = 4 * n + 2 * ts.length
  sink : c.sink = 2 * n
  unb : c.unb = (n : Int) + 1
  to : ∀ a, a < c.A → tt c a = aTo n ts a
  b3 : c.xb 1003 = some sb
  b4 : c.xb 1004 = some tr
  bx : c.xb 1043 = none
  x3 : ∀ i, i < n → (c.xc 1003)[i]? = some (.int .i64 ((4 * i : Nat) : Int))
  l4 : (c.xc 1004).length = n
  x4 : ∀ i, i < n → (c.xc 1004)[i]? = some (.bool (decide (i < x)))
  wf : WFc c
  hog : ∀ a, a < c.A → ∃ u i, u < c.N ∧ i < (c.og u).length ∧ arc c u i = a
theorem DC.next {n : Nat} {ts : List (Nat × Nat)} {sb tr x : Nat} {c : Net} (h : DC n ts sb tr x c) (hx : x < n) : DC n ts sb tr (x + 1) (setX c 1004 ((c.xc 1004).set x (.bool true))) := by
  have e : (setX c 1004 ((c.xc 1004).set x (.bool true))).xc 1004 = (c.xc 1004).set x (.bool true) := by simp [setX, updF]
  have e3 : (setX c 1004 ((c.xc 1004).set x (.bool true))).xc 1003 = c.xc 1003 := by simp [setX, updF]
  refine ⟨h.N, h.A, h.sink, h.unb, h.to, h.b3, h.b4, h.bx, fun i hi => by rw [e3]; exact h.x3 i hi, by rw [e, List.length_set]; exact h.l4, fun i hi => ?_, ⟨h.wf.ev, h.wf.hA, h.wf.hN, h.wf.sk, h.wf.og, h.wf.to, h.wf.ol⟩, h.hog⟩
  rw [e, List.getElem?_set]
  by_cases q : x = i
  · subst q
    rw [if_pos rfl, if_pos (by rw [h.l4]; exact hx)]
    simp
  · rw [if_neg q, h.x4 i hi]
    congr 2
    apply decide_eq_decide.2
    omega
/-- The state while the units are tried. -/
structure DV (n : Nat) (ts : List (Nat × Nat)) (x : Nat) (c : Net) (v : NV) : Prop where
  cap : ∀ a, a < c.A → rm v a = aCap n (fun u => decide (u < x)) a
  ch : v.changed = []
  sb : ∀ w, w < c.N → sn v w ≤ v.mark
  m0 : 0 ≤ v.mark
  m1 : v.mark ≤ 20 * (x : Int)
theorem aCap_rng (n : Nat) (t : Nat → Bool) (a : Nat) : 0 ≤ aCap n t a ∧ aCap n t a ≤ (n : Int) + 2 := by
  unfold aCap
  split
  · split
    · split <;> omega
    · split <;> omega
  · split <;> omega
theorem DV.rm {n : Nat} {ts : List (Nat × Nat)} {x : Nat} {c : Net} {v : NV} (h : DV n ts x c v) (hn : n ≤ 10) (hev : c.A % 2 = 0) : RM c v := fun a ha => by
  rw [h.cap a ha, h.cap (pt a) (pt_lt ha hev)]
  have h1 := aCap_rng n (fun u => decide (u < x)) a
  have h2 := aCap_rng n (fun u => decide (u < x)) (pt a)
  omega
theorem cap_next {n x a : Nat} (hx : x < n) : aCap n (fun u => decide (u < x + 1)) a = if a = 4 * x then (n : Int) + 1 else aCap n (fun u => decide (u < x)) a := by
  by_cases e : a = 4 * x
  · rw [if_pos e, e]
    unfold aCap
    rw [if_pos (by omega), if_pos (by omega), show 4 * x / 4 = x by omega, if_pos (by simp)]
  · rw [if_neg e]
    unfold aCap
    split
    · split
      · by_cases q : a / 4 < x
        · rw [if_pos (by simp; omega), if_pos (by simpa using q)]
        · rw [if_neg (by simp; omega), if_neg (by simpa using q)]
      · rfl
    · rfl
theorem FlowRes.FR {n : Nat} {ts : List (Nat × Nat)} {sb tr x limit f : Nat} {c : Net} {v : NV} (hf : FlowRes c v x limit f) (hd : DC n ts sb tr x c) (hv : DV n ts x c v) : FR n ts x (limit : Int) (f : Int) := by
  obtain ⟨r, hX, hr, hl, he⟩ := hf
  have hev : c.A % 2 = 0 := by rw [hd.A]; omega
  have e : ∀ S : Nat → Bool, X c.A (tt c) S (rm v) = X (4 * n + 2 * ts.length) (aTo n ts) S (aCap n fun u => decide (u < x)) := fun S => by
    rw [X_congr hev hd.to hv.cap, hd.A]
  refine ⟨by omega, fun S h1 h2 => ?_, ?_⟩
  · have h3 := hX S h1 (by rw [hd.sink]; exact h2)
    have h4 := X_nonneg (A := c.A) (to := tt c) (S := S) hr
    rw [e] at h3
    omega
  · rcases he with he | ⟨S, h1, h2, h3⟩
    · exact .inl (by omega)
    · refine .inr ⟨S, h1, by rw [← hd.sink]; exact h2, ?_⟩
      have h4 := hX S h1 h2
      rw [e, h3] at h4
      omega
theorem DV.next {n : Nat} {ts : List (Nat × Nat)} {sb tr x : Nat} {c : Net} {v v' : NV} (hd : DC n ts sb tr x c) (h : DV n ts x c v) (hx : x < n) (hl : v'.room.length = c.A) (hr : v'.room = v.room) (hc : v'.changed = []) (hs : ∀ w, w < c.N → sn v' w ≤ v'.mark) (hm : v.mark ≤ v'.mark) (hm2 : v'.mark ≤ v.mark + 20) : DV n ts (x + 1) (setX c 1004 ((c.xc 1004).set x (.bool true))) { v' with room := v'.room.set (4 * x) ((n : Int) + 1) } := by
  refine ⟨fun a ha => ?_, hc, hs, ?_, ?_⟩
  · have ha' : a < c.A := ha
    show (v'.room.set (4 * x) ((n : Int) + 1)).getD a 0 = _
    rw [getD_set (by rw [hl, hd.A]; omega), cap_next hx]
    split
    · rfl
    · rw [hr]; exact h.cap a ha'
  · show 0 ≤ v'.mark
    have := h.m0
    omega
  · show v'.mark ≤ 20 * ((x + 1 : Nat) : Int)
    have := h.m1
    push_cast
    omega
/-- least, as far as it is reckoned. -/
def lcnt (ts : List (Nat × Nat)) (x : Nat) (j : Nat) : Nat := (((lst ts x).take j).filter (fun k => decide ((ts.getD k (0, 0)).1 < x))).length
theorem lcnt_succ {ts : List (Nat × Nat)} {x j k : Nat} (h : (lst ts x)[j]? = some k) : lcnt ts x (j + 1) = lcnt ts x j + (if decide ((ts.getD k (0, 0)).1 < x) then 1 else 0) := by
  unfold lcnt
  rw [List.take_add_one, h]
  simp only [Option.toList_some, List.filter_append, List.length_append, List.filter_cons, List.filter_nil]
  split <;> rfl
theorem lcnt_le (ts : List (Nat × Nat)) (x j : Nat) : lcnt ts x j ≤ (lst ts x).length := by
  unfold lcnt
  exact Nat.le_trans (List.length_filter_le _ _) (by rw [List.length_take]; omega)
theorem lst_le (ts : List (Nat × Nat)) (x : Nat) : (lst ts x).length ≤ ts.length := by
  unfold lst
  exact Nat.le_trans (List.length_filter_le _ _) (by simp)
theorem lst_lt {ts : List (Nat × Nat)} {x k : Nat} (h : k ∈ lst ts x) : k < ts.length := by
  unfold lst at h
  exact List.mem_range.1 (List.mem_filter.1 h).1
theorem least_cnt (ts : List (Nat × Nat)) (x : Nat) : least ts x = 1 + ((lst ts x).length : Int) + (lcnt ts x (lst ts x).length : Int) := by
  unfold least lcnt
  rw [List.take_length]
end Go.Proofs.Ybulkcejy
