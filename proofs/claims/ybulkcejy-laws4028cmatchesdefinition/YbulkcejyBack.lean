import Derived.Test.YbulkcejyMaxP
import Derived.Test.YbulkcejyAug0
import Derived.RangeFuncNested
import Derived.RangeFuncBound
import Derived.RangeFuncCalls
import Derived.RangeFuncLeaves
import Derived.Shelf.Abstract
import Derived.Shelf.RegionOpen
import Derived.WalkKit
import Derived.OwnWalkIn
import Derived.TacticsInMore
import Derived.LoopNIn
import Derived.LoopIn
namespace Go.Proofs.Ybulkcejy
open Go.RowKit Go.Shelf
set_option linter.unusedVariables false
attribute [local go_sem] Oper.semAt_some

/-- What a round keeps: two blocks. -/
def Kp2 (a b : Nat) (A B : World) : Prop := B.heap[a]? = A.heap[a]? ∧ B.heap[b]? = A.heap[b]?
theorem Kp2.refl (a b : Nat) (A : World) : Kp2 a b A A := ⟨rfl, rfl⟩
theorem Kp2.trans {a b : Nat} {A B C : World} (h : Kp2 a b A B) (g : Kp2 a b B C) : Kp2 a b A C := ⟨g.1.trans h.1, g.2.trans h.2⟩
def encP (x : Nat × Nat × Int) : Array Value := #[.int .i64 (x.1 : Int), .agg #[.int .i64 (x.2.1 : Int), .int .i64 x.2.2]]

set_option maxRecDepth 100000 in
set_option maxHeartbeats 4000000 in
theorem back_calls (ca : Option Addr) (cl cc : Nat) (w : World) : Calls Yba.prog 14 #[.slice ca cl cc] w fun e w' => e = .returned (.func (.func 15) #[] #[.pointer (some ⟨w.heap.size, 0, none⟩)]) ∧ w' = w.alloc (.cells #[.slice ca cl cc] 47) := by
  go_enter Yba.func14, Yba.ntmps14
  go_wp2_with fail
  go_ret
  exact ⟨rfl, rfl⟩
set_option maxRecDepth 100000 in
set_option maxHeartbeats 4000000 in
theorem back1_in {α : Type} (val : α → Nat × Nat × Int) (F : Fence) (hd : F.depth = none) (h15 : F.fn 15) (hro : F.round = none) (n l Bp cb cap : Nat) (ca : Option Addr) (ch : List (Nat × Int)) (hch : ch.length ≤ 1000000) (bs : List α) (hbs : bs.map val = bk ch) (J Jx : List α → World → Prop)
    (hY : ∀ pre x W, J pre W → pre.length < ch.length → YieldAt F (n - 1) Yba.prog l (encP (val x)) W fun e W' =>
      (e = .returned (.bool true) ∧ J (pre ++ [x]) W' ∧ Kp2 Bp cb W W') ∨ (e = .returned (.bool false) ∧ Jx (pre ++ [x]) W'))
    (W : World) (hbp : W.cell? ⟨Bp, 0, none⟩ = some (.slice ca ch.length cap)) (hc : ∀ i, i < ch.length → ca = some ⟨cb, 0, none⟩ ∧ W.cell? ⟨cb, i * 2, none⟩ = some (.int .i64 ((ch.getD i (0, 0)).1 : Int)) ∧ W.cell? ⟨cb, i * 2 + 1, none⟩ = some (.int .i64 (ch.getD i (0, 0)).2)) (h0 : J [] W) :
    CallsIn F n Yba.prog 15 #[.func (.yield l) #[] #[], .pointer (some ⟨Bp, 0, none⟩)] W fun e W' => (∃ v, e = .returned v) ∧
      ((∃ ys, ys = bs ∧ J ys W') ∨ (∃ pre, pre <+: bs ∧ Jx pre W')) := by
  have hdd : ∀ k : Nat, (F.depth.isSome = true → 1 ≤ k) := fun k h => by rw [hd] at h; cases h
  have hbl : bs.length = ch.length := by rw [← bk_len ch, ← hbs, List.length_map]
  refine callsIn_of_wp Yba.func15 rfl h15 ?_ hro
  simp only [Yba.ntmps15, List.size_toArray, List.length_cons, List.length_nil, Nat.reduceAdd, Nat.reduceSub, Array.replicate_succ, Array.replicate_zero, List.push_toArray, List.append_toArray, List.nil_append, List.cons_append]
  have hl0 : (0 : Int) ≤ ch.length := by omega
  have hl1 : (ch.length : Int) ≤ 1000000 := by omega
  gi_wp2
  gi_loopw [3] (fun i wr => ∃ k : Nat, k ≤ ch.length ∧ i = .int .i64 ((ch.length : Int) - 1 - k) ∧ J (bs.take k) wr ∧ Kp2 Bp cb W wr)
    (fun i _ => (intOf i + 1).toNat)
  case atStart => exact ⟨0, Nat.zero_le _, by simp, by simpa using h0, Kp2.refl _ _ _⟩
  case round =>
    obtain ⟨k, hk, rfl, hJ, hkp⟩ := hrel
    by_cases hlt : k < ch.length
    · obtain ⟨hca, c0, c1⟩ := hc (ch.length - 1 - k) (by omega)
      obtain ⟨y, hy0⟩ : ∃ y, bs[k]? = some y := ⟨_, List.getElem?_eq_getElem (by omega)⟩
      have hsn : bs.take (k + 1) = bs.take k ++ [y] := by rw [List.take_add_one, hy0]; rfl
      have hval : val y = (ch.length - 1 - k, ch.getD (ch.length - 1 - k) (0, 0)) := by
        have h1 := bk_get hlt
        rw [← hbs, List.getElem?_map, hy0] at h1
        exact Option.some.inj h1
      generalize hx : ch.getD (ch.length - 1 - k) (0, 0) = x at c0 c1 hval
      obtain ⟨xa, xr⟩ := x
      obtain ⟨i, hi⟩ : ∃ i, ch.length - 1 - k = i := ⟨_, rfl⟩
      rw [hi] at c0 c1 hval
      have hii : (ch.length : Int) - 1 - k = i := by omega
      rw [hii]
      have hi0 : (0 : Int) ≤ (i : Int) := by omega
      have hi1 : (i : Int) < (ch.length : Int) := by omega
      have e0 : wr.cell? ⟨cb, i * 2, none⟩ = some (.int .i64 (xa : Int)) := (World.cell?_of_block (a := ⟨cb, i * 2, none⟩) hkp.2).trans c0
      have e1 : wr.cell? ⟨cb, i * 2 + 1, none⟩ = some (.int .i64 xr) := (World.cell?_of_block (a := ⟨cb, i * 2 + 1, none⟩) hkp.2).trans c1
      have ep : wr.cell? ⟨Bp, 0, none⟩ = some (.slice ca ch.length cap) := (World.cell?_of_block (a := ⟨Bp, 0, none⟩) hkp.1).trans hbp
      rw [hca] at ep
      clear hca
      obtain ⟨fn, tmps, assign, body, hy, hR⟩ := hY _ y wr hJ (by rw [List.length_take, hbl]; omega)
      rw [hval] at hy
      unfold encP at hy
      dsimp only at hy
      clear hx
      gi_wp2
      refine hR.mono ?_
      rintro e W3 (⟨rfl, hJ3, hk3⟩ | ⟨rfl, hJx3⟩)
      · gi_wp2
        go_roundw
        case rel => exact ⟨k + 1, by omega, by simp; omega, by rw [hsn]; exact hJ3, hkp.trans hk3⟩
        case measure => simp [intOf]
      · gi_wp2
        refine bodyPost_ret (results_none rfl _ _ _) rfl ?_
        exact ⟨⟨_, rfl⟩, .inr ⟨_, by rw [← hsn]; exact List.take_prefix _ _, hJx3⟩⟩
    · obtain rfl : k = ch.length := by omega
      have hii : (ch.length : Int) - 1 - ch.length = -1 := by omega
      rw [hii]
      gi_wp2
      go_end0
      exact ⟨⟨_, rfl⟩, .inl ⟨_, rfl, by rwa [← hbl, List.take_length] at hJ⟩⟩
theorem back_stops {α : Type} (val : α → Nat × Nat × Int) (F : Fence) (hd : F.depth = none) (h15 : F.fn 15) (hro : F.round = none) (n Bp cb cap : Nat) (ca : Option Addr) (ch : List (Nat × Int)) (hch : ch.length ≤ 1000000) (bs : List α) (hbs : bs.map val = bk ch) (w : World) (hBp : Bp < w.heap.size) (hcb : cb < w.heap.size)
    (hbp : w.cell? ⟨Bp, 0, none⟩ = some (.slice ca ch.length cap)) (hc : ∀ i, i < ch.length → ca = some ⟨cb, 0, none⟩ ∧ w.cell? ⟨cb, i * 2, none⟩ = some (.int .i64 ((ch.getD i (0, 0)).1 : Int)) ∧ w.cell? ⟨cb, i * 2 + 1, none⟩ = some (.int .i64 (ch.getD i (0, 0)).2)) :
    SeqStopsK F n Yba.prog 15 #[.pointer (some ⟨Bp, 0, none⟩)] (fun x => encP (val x)) (Kp2 Bp cb) (fun ys => ys = bs) (fun pre => pre <+: bs) ch.length w := fun l J Jx W hW _ _ hY h0 =>
  back1_in val F hd h15 hro n l Bp cb cap ca ch hch bs hbs J Jx hY W ((hW.cell (p := ⟨Bp, 0, none⟩) hBp).trans hbp) (fun i hi => ⟨(hc i hi).1, (hW.cell (p := ⟨cb, i * 2, none⟩) hcb).trans (hc i hi).2.1, (hW.cell (p := ⟨cb, i * 2 + 1, none⟩) hcb).trans (hc i hi).2.2⟩) h0

theorem flat_get (xs : List (Nat × Int)) : ∀ i, i < xs.length → (flat xs)[i * 2]? = some (nv (xs.getD i (0, 0)).1) ∧ (flat xs)[i * 2 + 1]? = some (iv (xs.getD i (0, 0)).2) := by
  induction xs with
  | nil => intro i hi; simp at hi
  | cons p xs ih =>
    intro i hi
    have e : flat (p :: xs) = [nv p.1, iv p.2] ++ flat xs := rfl
    rw [e]
    cases i with
    | zero => exact ⟨rfl, rfl⟩
    | succ i =>
      have := ih i (by simpa using hi)
      rw [show (i + 1) * 2 = i * 2 + 2 by omega, show i * 2 + 2 + 1 = (i * 2 + 1) + 2 by omega]
      exact this
theorem NF.chg {L : Nat} {W : World} {B : Nat → Nat} {c : Net} {v : NV} {rv cv : Value} {blk : Nat → Option Nat} {cont : Nat → List Value} {cp : Nat → Nat} (h : NF L W B c v rv cv blk cont cp) :
    ∃ ca cap cb, cv = .slice ca v.changed.length cap ∧ cb < W.heap.size ∧ cb ≠ B 3 ∧ ∀ i, i < v.changed.length → ca = some ⟨cb, 0, none⟩ ∧ W.cell? ⟨cb, i * 2, none⟩ = some (.int .i64 ((v.changed.getD i (0, 0)).1 : Int)) ∧ W.cell? ⟨cb, i * 2 + 1, none⟩ = some (.int .i64 (v.changed.getD i (0, 0)).2) := by
  rcases h.s8.2 with ⟨h1, h0, _⟩ | ⟨b, cap, h1, h2, _⟩
  · refine ⟨none, 0, B 0, by rw [h1, h0], (h.hp.lt (h.bl 0 (by omega))).2, fun e => ?_, fun i hi => absurd hi (by omega)⟩
    have := h.hp.inj 0 3 (B 0) (h.bl 0 (by omega)) (by rw [e]; exact h.bl 3 (by omega))
    omega
  · refine ⟨_, cap, b, h1, (h.hp.lt h2).2, fun e => ?_, fun i hi => ⟨rfl, h.hp.read h2 (by rw [h.k8]; exact (flat_get _ i hi).1), h.hp.read h2 (by rw [h.k8]; exact (flat_get _ i hi).2)⟩⟩
    have := h.hp.inj 8 3 b h2 (by rw [e]; exact h.bl 3 (by omega))
    omega
theorem HP.own {L : Nat} {W : World} {blk : Nat → Option Nat} {cont : Nat → List Value} {cp ty : Nat → Nat} (h : HP L W blk cont cp ty) {W' : World} {row : Option Nat} (hg : W.grownBy W' row) (hr : ∀ r, row = some r → ∃ o : Obj, W.heap[r]? = some o ∧ o.isCells = false) : HP L W' blk cont cp ty := by
  refine ⟨fun l b hl => ?_, h.inj⟩
  obtain ⟨h1, cur, h2, h3⟩ := h.at' l b hl
  refine ⟨h1, cur, (hg.block b (Array.getElem?_eq_some_iff.1 h2).1 (fun e => ?_)).trans h2, h3⟩
  obtain ⟨o, ho, hc⟩ := hr b e.symm
  rw [h2] at ho
  cases ho
  cases hc
theorem NF.own {L : Nat} {W : World} {B : Nat → Nat} {c : Net} {v : NV} {rv cv : Value} {blk : Nat → Option Nat} {cont : Nat → List Value} {cp : Nat → Nat} (h : NF L W B c v rv cv blk cont cp) {W' : World} {row : Option Nat} (hg : W.grownBy W' row) (hr : ∀ r, row = some r → ∃ o : Obj, W.heap[r]? = some o ∧ o.isCells = false) : NF L W' B c v rv cv blk cont cp :=
  { h with hp := h.hp.own hg hr, LW := Nat.le_trans h.LW hg.size }
/-- Two blocks more beside the network: a new label. -/
def addX (c : Net) (l b : Nat) (xs : List Value) : Net := { c with xb := updF c.xb l (some b), xc := updF c.xc l xs, xp := updF c.xp l xs.length }
theorem NF.addX {L : Nat} {W : World} {B : Nat → Nat} {c : Net} {v : NV} {rv cv : Value} {blk : Nat → Option Nat} {cont : Nat → List Value} {cp : Nat → Nat} (h : NF L W B c v rv cv blk cont cp) (hN : c.N ≤ 100) {l : Nat} (hl : 1000 ≤ l) (hx : c.xb l = none) {t : Nat} (ht : (l - 1000) % 100 = t) {W' : World} {cur : Array Value} (hg : Below W.heap.size W W') (hn : W'.heap[W.heap.size]? = some (.cells cur t (0, 0))) :
    NF L W' B (Ybulkcejy.addX c l W.heap.size cur.toList) v rv cv (updF blk l (some W.heap.size)) (updF cont l cur.toList) (updF cp l cur.toList.length) := by
  have hty : tyF l = t := by
    unfold tyF
    rw [if_neg (by omega), if_neg (by omega), if_neg (by omega), if_pos hl]
    exact ht
  have hp := h.hp.made (by rw [(h.ex l hl).1]; exact hx) h.LW (xs := cur.toList) hty hg hn rfl
  have n0 : ∀ {k : Nat}, k < 1000 → updF cont l cur.toList k = cont k := fun hk => updF_ne _ _ (by omega)
  have nb : ∀ {k : Nat}, k < 1000 → updF blk l (some W.heap.size) k = blk k := fun hk => updF_ne _ _ (by omega)
  refine ⟨hp, Nat.le_trans h.LW hg.size, fun k hk => ?_, fun k hk => (nb (by omega)).trans (h.bl k hk), (n0 (by omega)).trans h.k0, (n0 (by omega)).trans h.k1, fun u hu => ?_, (n0 (by omega)).trans h.k2, h.l2, (n0 (by omega)).trans h.k3, h.l3, (n0 (by omega)).trans h.k4, h.l4, (n0 (by omega)).trans h.k5, h.l5, (n0 (by omega)).trans h.k6, h.l6, h.s7.other (by omega), (n0 (by omega)).trans h.k7, h.s8.other (by omega), (n0 (by omega)).trans h.k8⟩
  · show _ = updF c.xb l _ k ∧ _ = updF c.xc l _ k ∧ _ = updF c.xp l _ k
    have := h.ex k hk
    by_cases e : k = l
    · subst e
      rw [updF_same, updF_same, updF_same, updF_same, updF_same, updF_same]
      exact ⟨rfl, rfl, rfl⟩
    · rw [updF_ne _ _ e, updF_ne _ _ e, updF_ne _ _ e, updF_ne _ _ e, updF_ne _ _ e, updF_ne _ _ e]
      exact this
  · have hu' : u < c.N := hu
    exact ⟨(h.ks u hu).1.other (by omega), (n0 (by omega)).trans (h.ks u hu).2⟩
theorem NF.dropX {L : Nat} {W : World} {B : Nat → Nat} {c : Net} {v : NV} {rv cv : Value} {blk : Nat → Option Nat} {cont : Nat → List Value} {cp : Nat → Nat} {l b : Nat} {xs : List Value} (h : NF L W B (Ybulkcejy.addX c l b xs) v rv cv blk cont cp) (hN : c.N ≤ 100) (hl : 1000 ≤ l) (hx : c.xb l = none) :
    NF L W B c v rv cv (updF blk l none) (updF cont l (c.xc l)) (updF cp l (c.xp l)) := by
  have n0 : ∀ {k : Nat}, k < 1000 → updF cont l (c.xc l) k = cont k := fun hk => updF_ne _ _ (by omega)
  have nb : ∀ {k : Nat}, k < 1000 → updF blk l none k = blk k := fun hk => updF_ne _ _ (by omega)
  have hp : HP L W (updF blk l none) (updF cont l (c.xc l)) (updF cp l (c.xp l)) tyF := by
    refine ⟨fun k b' hk => ?_, fun k1 k2 b' h1 h2 => ?_⟩
    · by_cases e : k = l
      · subst e
        rw [updF_same] at hk
        cases hk
      · rw [updF_ne _ _ e] at hk
        rw [updF_ne _ _ e, updF_ne _ _ e]
        exact h.hp.at' k b' hk
    · by_cases e1 : k1 = l
      · subst e1
        rw [updF_same] at h1
        cases h1
      · by_cases e2 : k2 = l
        · subst e2
          rw [updF_same] at h2
          cases h2
        · rw [updF_ne _ _ e1] at h1
          rw [updF_ne _ _ e2] at h2
          exact h.hp.inj k1 k2 b' h1 h2
  refine ⟨hp, h.LW, fun k hk => ?_, fun k hk => (nb (by omega)).trans (h.bl k hk), (n0 (by omega)).trans h.k0, (n0 (by omega)).trans h.k1, fun u hu => ?_, (n0 (by omega)).trans h.k2, h.l2, (n0 (by omega)).trans h.k3, h.l3, (n0 (by omega)).trans h.k4, h.l4, (n0 (by omega)).trans h.k5, h.l5, (n0 (by omega)).trans h.k6, h.l6, h.s7.other (by omega), (n0 (by omega)).trans h.k7, h.s8.other (by omega), (n0 (by omega)).trans h.k8⟩
  · have := h.ex k hk
    by_cases e : k = l
    · subst e
      rw [updF_same, updF_same, updF_same]
      exact ⟨hx.symm, rfl, rfl⟩
    · rw [updF_ne _ _ e, updF_ne _ _ e, updF_ne _ _ e]
      have h2 : _ = updF c.xb l _ k ∧ _ = updF c.xc l _ k ∧ _ = updF c.xp l _ k := this
      rw [updF_ne _ _ e, updF_ne _ _ e, updF_ne _ _ e] at h2
      exact h2
  · exact ⟨(h.ks u hu).1.other (by omega), (n0 (by omega)).trans (h.ks u hu).2⟩
theorem NF.xread {L : Nat} {W : World} {B : Nat → Nat} {c : Net} {v : NV} {rv cv : Value} {blk : Nat → Option Nat} {cont : Nat → List Value} {cp : Nat → Nat} (h : NF L W B c v rv cv blk cont cp) {l b i : Nat} {x : Value} (hl : 1000 ≤ l) (hb : c.xb l = some b) (hx : (c.xc l)[i]? = some x) : W.cell? ⟨b, i, none⟩ = some x :=
  h.hp.read ((h.ex l hl).1.trans hb) (by rw [(h.ex l hl).2.1]; exact hx)
theorem NF.addX_read {L : Nat} {W : World} {B : Nat → Nat} {c : Net} {v : NV} {rv cv : Value} {blk : Nat → Option Nat} {cont : Nat → List Value} {cp : Nat → Nat} {l b : Nat} {xs : List Value} (h : NF L W B (Ybulkcejy.addX c l b xs) v rv cv blk cont cp) {i : Nat} {x : Value} (hl : 1000 ≤ l) (hx : xs[i]? = some x) : W.cell? ⟨b, i, none⟩ = some x :=
  h.xread hl (updF_same _ _ _) (by show (updF c.xc l xs l)[i]? = _; rw [updF_same]; exact hx)
end Go.Proofs.Ybulkcejy
