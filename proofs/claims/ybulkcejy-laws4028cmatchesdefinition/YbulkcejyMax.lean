import Derived.Test.YbulkcejyAug
import Derived.Test.YbulkcejyMsr
import Derived.Test.YbulkcejyBack
import Derived.Test.YbulkcejyDrawIn
namespace Go.Proofs.Ybulkcejy
open Go.RowKit Go.Shelf
set_option linter.unusedVariables false
attribute [local go_sem] Oper.semAt_some
attribute [local go_sem ↓] Go.wp_at_zero Go.wp_at_succ

theorem abs_act {c : Code} {P : Program} {Q : Exit → Act → World → Prop} {a : Act} {w : World} (h : ∀ A, A = a → c.wp P Q A w) : c.wp P Q a w := h a rfl
theorem rf_plain {c : Code} {P : Program} {Q : Exit → Act → World → Prop} {a : Act} {w : World} (h : c.wpIn Fence.wide 6 P Q a w) : c.wp P Q a w := wpIn_wide.1 h
def FlowOut (L : Nat) (B : Nat → Nat) (c : Net) (v : NV) (x limit : Nat) (W : World) (e : Ending) (W' : World) : Prop := ∃ (f : Nat) (v' : NV), e = .returned (.int .i64 (f : Int)) ∧ St L B c v' W' ∧ FlowRes c v x limit f ∧ v'.room = v.room ∧ v'.changed = [] ∧ (∀ w, w < c.N → sn v' w ≤ v'.mark) ∧ v.mark ≤ v'.mark ∧ v'.mark ≤ v.mark + limit + 1 ∧ Below L W W'
theorem WFc.addX {c : Net} (h : WFc c) (l b : Nat) (xs : List Value) : WFc (Ybulkcejy.addX c l b xs) := ⟨h.ev, h.hA, h.hN, h.sk, h.og, h.to, h.ol⟩

theorem Kp2.put {a b n : Nat} (ha : a < n) (hb : b < n) (W : World) (l : Nat) (o o' : Obj) (hl : n ≤ l) (_ : W.heap[l]? = some o) (_ : o.isCells = false) (_ : o.isWalk = false) : Kp2 a b W (W.putObj l o') := by
  constructor
  · simp only [World.putObj]
    rw [Array.getElem?_setIfInBounds_ne (by omega)]
  · simp only [World.putObj]
    rw [Array.getElem?_setIfInBounds_ne (by omega)]
theorem Kp2.of_below {a b : Nat} {A C : World} (h : Below A.heap.size A C) (ha : a < A.heap.size) (hb : b < A.heap.size) : Kp2 a b A C := ⟨h.block a ha, h.block b hb⟩
def MxI (L : Nat) (B : Nat → Nat) (c : Net) (v : NV) (rv cv : Value) (blk : Nat → Option Nat) (cp : Nat → Nat) (W3 : World) (pre : List { y : Nat × Nat × Int // y.2.1 < c.A }) (W : World) : Prop := (∃ cont, NF L W B c { v with room := wrote (pre.map Subtype.val) v.room } rv cv blk cont cp) ∧ Below L W3 W
theorem MxI.own {L : Nat} {B : Nat → Nat} {c : Net} {v : NV} {rv cv : Value} {blk : Nat → Option Nat} {cp : Nat → Nat} {W3 : World} (hL : L ≤ W3.heap.size) : OwnFrom W3.heap.size (MxI L B c v rv cv blk cp W3) :=
  OwnFrom.and (Own.from (fun s A C row hs hg hr => by
    obtain ⟨cont, h⟩ := hs
    exact ⟨cont, h.own hg hr⟩) _) (ownFrom_below hL hL)
def MxA {n : Nat} (A0 : Act) (x : { y : Nat × Nat × Int // y.2.1 < n }) (a' : Act) (W : World) : Prop := ∃ Bx, a' = { tmps := ((A0.tmps.setIfInBounds 56 (.int .i64 (x.1.1 : Int))).setIfInBounds 57 (.agg #[.int .i64 (x.1.2.1 : Int), .int .i64 x.1.2.2])).setIfInBounds 12 (.pointer (some ⟨Bx, 0, none⟩)), defers := [] } ∧ W.cell? ⟨Bx, 0, none⟩ = some (.int .i64 (x.1.2.1 : Int)) ∧ W.cell? ⟨Bx, 1, none⟩ = some (.int .i64 x.1.2.2)
theorem MxA.own {n k : Nat} (A0 : Act) (x : { y : Nat × Nat × Int // y.2.1 < n }) (a' : Act) : OwnFrom k (fun (_ : Unit) W => MxA A0 x a' W) := Own.from (fun s A B row hs hg hr => by
    obtain ⟨Bx, h1, h2, h3⟩ := hs
    exact ⟨Bx, h1, cell_kept h2 hg hr, cell_kept h3 hg hr⟩) _
theorem merge_in {F : Fence} {n : Nat} {P : Program} {c : Code} {Q : Exit → Act → World → Prop} {a : Act} {w : World} (R : Act → World → Prop) (h : c.wpIn F n P (fun e a' W' => e = .normal ∧ R a' W') a w) (k : ∀ a' W', R a' W' → Q .normal a' W') : c.wpIn F n P Q a w :=
  wpIn_mono h (by rintro e a' W' ⟨rfl, h⟩; exact k _ _ h)
set_option maxRecDepth 100000 in
set_option maxHeartbeats 8000000 in
theorem maxFlow_calls (L : Nat) (B : Nat → Nat) (c0 : Net) (hc0 : WFc c0) (hog0 : ∀ a, a < c0.A → ∃ u i, u < c0.N ∧ i < (c0.og u).length ∧ arc c0 u i = a) (v : NV) (W : World) (x limit : Nat) (hSt : St L B c0 v W) (hx0 : x < c0.N) (hxs0 : x ≠ c0.sink) (hlim : limit ≤ 100) (hr0 : RM c0 v) (hsb0 : ∀ w, w < c0.N → sn v w ≤ v.mark) (hmk0 : 0 ≤ v.mark) (hmk1 : v.mark ≤ 100000) (hch : v.changed = []) (hxb : c0.xb 1043 = none) :
    Calls Yba.prog 9 #[.pointer (some ⟨B 0, 0, none⟩), .int .i64 (x : Int), .int .i64 (limit : Int)] W (FlowOut L B c0 v x limit W) := by
  obtain ⟨rv, cv, blk, cont, cp, h⟩ := hSt
  have hlen0 : Len c0 v := ⟨h.l3, h.l4, h.l5, h.l6⟩
  have hcc : WFc (Ybulkcejy.addX c0 1043 W.heap.size [.pointer (some ⟨B 0, 0, none⟩)]) := hc0.addX _ _ _
  have hX := h.addX hc0.hN (l := 1043) (by omega) hxb (t := 43) (by omega) (W' := W.alloc (.cells #[.pointer (some ⟨B 0, 0, none⟩)] 43)) (cur := #[.pointer (some ⟨B 0, 0, none⟩)]) ((Below.refl _ _).alloc (Nat.le_refl _) _) (World.alloc_heap_new _ _)
  have hFI0 : FI (Ybulkcejy.addX c0 1043 W.heap.size [.pointer (some ⟨B 0, 0, none⟩)]) v x v 0 0 := FI.start x ⟨hlen0.r, hlen0.l, hlen0.s, hlen0.n⟩ hr0 hsb0 hch
  have hbA : Below L W (W.alloc (.cells #[.pointer (some ⟨B 0, 0, none⟩)] 43)) := (Below.refl _ _).alloc h.LW _
  have hog : ∀ a, a < (Ybulkcejy.addX c0 1043 W.heap.size [.pointer (some ⟨B 0, 0, none⟩)]).A → ∃ u i, u < (Ybulkcejy.addX c0 1043 W.heap.size [.pointer (some ⟨B 0, 0, none⟩)]).N ∧ i < ((Ybulkcejy.addX c0 1043 W.heap.size [.pointer (some ⟨B 0, 0, none⟩)]).og u).length ∧ arc (Ybulkcejy.addX c0 1043 W.heap.size [.pointer (some ⟨B 0, 0, none⟩)]) u i = a := hog0
  obtain ⟨bx, hbx⟩ : ∃ b, W.heap.size = b := ⟨_, rfl⟩
  have hX' : N5 L B (Ybulkcejy.addX c0 1043 W.heap.size [.pointer (some ⟨B 0, 0, none⟩)]) v rv cv (W.alloc (.cells #[.pointer (some ⟨B 0, 0, none⟩)] 43)) := ⟨_, _, _, hX⟩
  clear hX
  rw [hbx] at hX' hcc hFI0 hog
  have hbxl : L ≤ bx := by rw [← hbx]; exact h.LW
  generalize hc1 : Ybulkcejy.addX c0 1043 bx [.pointer (some ⟨B 0, 0, none⟩)] = c at hX' hcc hFI0 hog
  have HC1 : Hid (Ybulkcejy.addX c0 1043 bx [.pointer (some ⟨B 0, 0, none⟩)] = c) := hc1
  have eN : c.N = c0.N := by rw [← hc1]; rfl
  have eS : c.sink = c0.sink := by rw [← hc1]; rfl
  have hx : x < c.N := by omega
  have hxs : x ≠ c.sink := by omega
  have xb : c.xb 1043 = some bx := by rw [← hc1]; show updF c0.xb 1043 (some bx) 1043 = some bx; exact updF_same _ _ _
  have xc : (c.xc 1043)[0]? = some (.pointer (some ⟨B 0, 0, none⟩)) := by rw [← hc1]; show (updF c0.xc 1043 _ 1043)[0]? = _; rw [updF_same]; rfl
  have XR : ∀ {v : NV} {rv cv : Value} {blk : Nat → Option Nat} {cont : Nat → List Value} {cp : Nat → Nat} {W : World}, NF L W B c v rv cv blk cont cp → W.cell? ⟨bx, 0, none⟩ = some (.pointer (some ⟨B 0, 0, none⟩)) := fun h => h.xread (by omega) xb xc
  have HNE : Hid (c.N = c0.N) := eN
  have HSE : Hid (c.sink = c0.sink) := eS
  clear hc1 eN eS xb xc
  have HN := hcc.hN
  have hsk := hcc.sk
  have HLW : Hid (L ≤ W.heap.size) := h.LW
  clear h
  refine (callsIn_wide (n := 6)).1 ?_
  refine callsIn_of_wp_marks Yba.func9 rfl trivial ?_ rfl
  simp only [Yba.ntmps9, List.size_toArray, List.length_cons, List.length_nil, Nat.reduceAdd, Nat.reduceSub, Array.replicate_succ, Array.replicate_zero, List.push_toArray, List.append_toArray, List.nil_append, List.cons_append]
  refine wpIn_wide.2 ?_
  go_wp2_with fail
  go_loopg [7] limit (fun g s7 wr => ∃ (v1 : NV) (f : Nat), f + g = limit ∧ s7 = .int .i64 (f : Int) ∧ St L B c v1 wr ∧ FI c v x v1 f f ∧ Below L W wr)
  case atStart => exact ⟨v, 0, by omega, rfl, ⟨_, _, hX'⟩, hFI0, hbA⟩
  case round =>
    clear hX' hFI0 hbA
    obtain ⟨v1, f, hfg, rfl, ⟨rv1, cv1, blk1, cont1, cp1, h1⟩, hFI, hbw⟩ := hrel
    have HG : Hid (f + gk = limit) := hfg
    have b1 := XR h1
    have hm1 := hFI.mks
    by_cases hlt : f < limit
    · have hlti : (f : Int) < (limit : Int) := by omega
      go_wp2_with (first | (go_at_call 12; refine (measure_calls L B c hcc v1 _ x ⟨_, _, _, _, _, h1⟩ hx hxs hFI.sb (by omega) (by omega)).mono ?_; rintro e W2 ⟨b, v2, rfl, ⟨rv2, cv2, blk2, cont2, cp2, h2⟩, hMP, hb2⟩; have b2 := XR h2; have f8 := h2.field (i := 8) rfl; have f9 := h2.field (i := 9) rfl; obtain ⟨ca, cap, cb, hcv, hcb, hcb3, hcells⟩ := h2.chg; subst hcv; have f10 := h2.field (i := 10) rfl; obtain ⟨ra2, rc2, hrv2⟩ := h2.rvform; subst hrv2) | (go_at_call 14; refine (back_calls _ _ _ _).mono ?_; rintro e W3 ⟨rfl, rfl⟩))
      · obtain rfl : b = true := by assumption
        clear f10 hcells
        have hFI2 := hFI.meas hMP
        have hb3 := hbw.trans hb2
        clear h1 b1 hbw hb2
        go_loopg [26] v2.reached.length (fun g s26 wq => ∃ (ys : List Int) (j : Nat), j + g = v2.reached.length ∧ s26 = .int .i64 (j : Int) ∧ N5 L B c { v2 with next := ys } (.slice ra2 v2.reached.length rc2) (.slice ca v2.changed.length cap) wq ∧ (∀ k, k < j → ys.getD (rd v2 k) 0 = 0) ∧ ys.length = c.N ∧ Below L W wq)
        case atStart => exact ⟨v2.next, 0, by omega, rfl, ⟨_, _, _, h2⟩, fun k hk => absurd hk (by omega), h2.l6, hb3⟩
        case round =>
          clear h2 b2 f8 f9 hb3
          obtain ⟨ys, j, hjg, rfl, ⟨blk3, cont3, cp3, h3⟩, hz, hyl, hb3⟩ := hrel
          have HJ : Hid (j + gk = v2.reached.length) := hjg
          clear hjg
          have b3 := XR h3
          have f9 := h3.field (i := 9) rfl
          have hrlen : v2.reached.length ≤ maxLen := by
            rcases h3.s7.2 with ⟨_, q, _⟩ | ⟨_, q, _, _, q1, q2, _⟩
            · have q' : v2.reached.length = 0 := q
              omega
            · have q1' : v2.reached.length ≤ q := q1
              omega
          unfold maxLen at hrlen
          by_cases hj : j < v2.reached.length
          · have hji : (j : Int) < (v2.reached.length : Int) := by omega
            obtain ⟨rb, rcap, hrv, hrd⟩ := h3.reachv hj
            cases hrv
            obtain ⟨u, hue⟩ : ∃ u, rd v2 j = u := ⟨_, rfl⟩
            have HUE : Hid (rd v2 j = u) := hue
            have hu : u < c.N := by rw [← hue]; exact hMP.rlt _ (rd_mem hj)
            have hrd' : wr.cell? ⟨rb, j, none⟩ = some (.int .i64 (u : Int)) := by rw [← hue]; exact hrd
            clear hue hrd
            have x6 := h3.nextv hu
            have z6 := h3.ffz 6 (by omega) u
            have hui : (u : Int) < (c.N : Int) := by omega
            ((try unfold nv at *); (try unfold iv at *))
            go_wp2_with fail
            go_roundg (gk - 1)
            case measure =>
              have := HJ.out
              omega
            case rel =>
              have := HJ.out
              refine ⟨ys.set u 0, j + 1, by omega, by push_cast; rfl, ⟨_, _, _, h3.setNext hu 0⟩, fun k hk => ?_, by simpa using hyl, hb3.trans (h3.hp.storeBelow (h3.bl 6 (by omega)) u _)⟩
              rw [getD_set (by rw [hyl]; exact hu)]
              split
              · rfl
              · rename_i hne
                exact hz k (by
                  by_cases e : k = j
                  · rw [e] at hne
                    exact absurd HUE.out hne
                  · omega)
          · have hji : ¬ (j : Int) < (v2.reached.length : Int) := by omega
            obtain ⟨hPH, hPZ⟩ := PH.start hMP (ys := ys) (fun k hk => hz k (by have := HJ.out; omega))
            have hFI3 := hFI2.next hyl
            have hMT := hMP.tree
            have hMS := hMP.yes rfl
            go_wp2_with fail
            go_loopg [7] (limit - f) (fun g s7 wq => ∃ (v4 : NV) (f4 : Nat), f4 + g = limit ∧ s7 = .int .i64 (f4 : Int) ∧ St L B c v4 wq ∧ FI c v x v4 f4 (f + 1) ∧ PH c x v4 ∧ ((f4 = f ∧ v4 = { v2 with next := ys }) ∨ f < f4) ∧ Below L W wq)
            case atStart => exact ⟨_, f, by omega, rfl, ⟨_, _, _, _, _, h3⟩, hFI3, hPH, .inl ⟨rfl, rfl⟩, hb3⟩
            case round =>
              clear h3 b3 f9 hFI3 hPH hb3
              obtain ⟨v4, f4, hfg4, rfl, ⟨rv4, cv4, blk4, cont4, cp4, h4⟩, hFI4, hPH4, hor, hb4⟩ := hrel
              have HG4 : Hid (f4 + gk = limit) := hfg4
              clear hfg4
              have b4 := XR h4
              have hf4 : f4 ≤ limit := by have := HG4.out; omega
              have hl4 : v4.changed.length + 2 * (c.N + 1) ≤ 1000000 := by
                have h1 := hFI4.cl
                have h2 : 2 * (c.N + 1) * f4 ≤ 202 * 100 := Nat.mul_le_mul (by omega) (by omega)
                omega
              have hlx := (hPH4.lb x hx hPH4.sx).1
              by_cases hlt4 : f4 < limit
              · have hlti4 : (f4 : Int) < (limit : Int) := by omega
                go_wp2_with (go_at_call 13; refine (augment_calls L B c hcc (c.N + 1) v4 _ x ((limit : Int) - f4) ⟨_, _, _, _, _, h4⟩ hx hPH4.sx (by omega) (by omega) (by omega) hFI4.rmn hPH4.lb hPH4.nb hFI4.cb hl4).mono ?_; rintro e W5 ⟨sent, v5, rfl, hS5, hA5, hb5⟩; unfold iv; have hsn0 := hA5.s0)
                · have hs0 : sent = 0 := eq_of_beq (by assumption)
                  have hff : f < f4 := by
                    rcases hor with ⟨_, e2⟩ | q
                    · subst e2
                      subst hs0
                      exact (first_sends hPH4.lb hMT hsk hMS hPZ hA5).elim
                    · exact q
                  have hFI5 := hFI4.aug hA5
                  have e5 : f4 + sent.toNat = f4 := by rw [hs0]; rfl
                  rw [e5] at hFI5
                  go_roundg (limit - f4)
                  case measure =>
                    have := HG.out
                    omega
                  case rel =>
                    exact ⟨v5, f4, by omega, rfl, hS5, hFI5.mono (by omega), hb4.trans hb5⟩
                · have hs0 : sent ≠ 0 := beq_eq_false_iff_ne.1 (by assumption)
                  have hFI5 := hFI4.aug hA5
                  have e5 : ((f4 + sent.toNat : Nat) : Int) = (f4 : Int) + sent := by omega
                  rw [← e5]
                  go_roundg (limit - (f4 + sent.toNat))
                  case measure =>
                    have := HG4.out
                    omega
                  case rel =>
                    exact ⟨v5, f4 + sent.toNat, by omega, rfl, hS5, hFI5, hPH4.aug hA5, .inr (by omega), hb4.trans hb5⟩
              · have hlti4 : ¬ (f4 : Int) < (limit : Int) := by omega
                go_wp2_with fail
                go_roundg (limit - f4)
                case measure =>
                  have := HG.out
                  omega
                case rel =>
                  exact ⟨v4, f4, by omega, rfl, ⟨_, _, _, _, _, h4⟩, hFI4.mono (by omega), hb4⟩
      · obtain rfl : b = false := by assumption
        have hFI2 := hFI.meas hMP
        have hb3 := hbw.trans hb2
        have hfl : f ≤ limit := by omega
        have FR := hFI.cut hcc hog hfl hMP
        refine abs_act ?_
        intro A0 hA0
        have hsz : (W2.alloc (.cells #[.slice ca v2.changed.length cap] 47)).heap.size = W2.heap.size + 1 := by simp
        have hbp : (W2.alloc (.cells #[.slice ca v2.changed.length cap] 47)).cell? ⟨W2.heap.size, 0, none⟩ = some (.slice ca v2.changed.length cap) := by go_simp
        have hB3 : Below W2.heap.size W2 (W2.alloc (.cells #[.slice ca v2.changed.length cap] 47)) := (Below.refl _ _).alloc (Nat.le_refl _) _
        have hE := h2.grow hB3
        generalize hW3 : W2.alloc (.cells #[.slice ca v2.changed.length cap] 47) = W3 at hsz hbp hB3 hE ⊢
        have hcells3 : ∀ i, i < v2.changed.length → ca = some ⟨cb, 0, none⟩ ∧ W3.cell? ⟨cb, i * 2, none⟩ = some (.int .i64 ((v2.changed.getD i (0, 0)).1 : Int)) ∧ W3.cell? ⟨cb, i * 2 + 1, none⟩ = some (.int .i64 (v2.changed.getD i (0, 0)).2) := fun i hi => ⟨(hcells i hi).1, (hB3.cell (p := ⟨cb, i * 2, none⟩) hcb).trans (hcells i hi).2.1, (hB3.cell (p := ⟨cb, i * 2 + 1, none⟩) hcb).trans (hcells i hi).2.2⟩
        have hbw3 : Below L W W3 := hb3.trans (hB3.mono h2.LW)
        have hchl : v2.changed.length ≤ 1000000 := by
          have h1 := hFI2.cl
          have h2 : 2 * (c.N + 1) * f ≤ 202 * 100 := Nat.mul_le_mul (by omega) (by omega)
          omega
        have hallA : ∀ y, y ∈ bk v2.changed → y.2.1 < c.A := fun y hy => by
          have h1 : y.2 ∈ (bk v2.changed).map (·.2) := List.mem_map_of_mem hy
          rw [bk_snd] at h1
          exact hFI2.cb y.2 (List.mem_reverse.1 h1)
        obtain ⟨Bp, hBp⟩ : ∃ b, W2.heap.size = b := ⟨_, rfl⟩
        rw [hBp] at hbp hsz
        have hB03 : B 3 < W2.heap.size := (h2.hp.lt (h2.bl 3 (by omega))).2
        have hne3 : Bp ≠ B 3 := by omega
        have hcb' : cb < W3.heap.size := by omega
        have hBp' : Bp < W3.heap.size := by omega
        have hB0W : B 0 < W2.heap.size := (h2.hp.lt (h2.bl 0 (by omega))).2
        have hLC : L ≤ W2.heap.size := h2.LW
        have hL3 : L ≤ W3.heap.size := by omega
        have hB0W3 : B 0 < W3.heap.size := by omega
        have hcb4 : cb < W3.heap.size ∧ Bp < W3.heap.size := ⟨hcb', hBp'⟩
        refine rf_plain ?_
        refine wpIn_rangeFunc_ownH (F := Fence.wide) (n := 6) rfl (by omega) (gf := 15) (lb := #[.pointer (some ⟨Bp, 0, none⟩)]) (by rw [hA0]; simp [Act.eval, hBp]) trivial (enters_of Yba.func15 (by kernel_rfl) rfl)
          (back_stops (α := { y : Nat × Nat × Int // y.2.1 < c.A }) Subtype.val Fence.wide rfl trivial rfl 5 Bp cb cap ca v2.changed hchl ((bk v2.changed).attachWith _ hallA) (List.attachWith_map_subtype_val hallA) W3 hBp' hcb' hbp hcells3) Kp2.trans (Kp2.put hBp' hcb') (Below.refl _ _) (fun _ => rfl)
          (MxI L B c v2 (.slice ra2 v2.reached.length rc2) (.slice ca v2.changed.length cap) blk2 cp2 W3) (fun _ _ _ => False) (MxI.own (by omega)) (fun _ => ownFrom_pure _ _) ⟨⟨_, hE⟩, Below.refl _ _⟩ (MxA A0) (MxA.own A0) ?assign ?body ?done ?stop
        case assign =>
          rintro l pre ⟨⟨i', xa, xr⟩, hxa⟩ W5 K ⟨⟨cont5, hN5⟩, hB5⟩ hK
          clear hBp
          subst hA0
          simp only [encP]
          gi_wp2
          have hs5 := hB5.size
          exact hK _ _ ((KeepsOthers.alloc _ _).from _) (Kp2.of_below ((Below.refl _ _).alloc (Nat.le_refl _) _) (by omega) (by omega)) ⟨⟨cont5, hN5.grow ((Below.refl _ _).alloc (Nat.le_refl _) _)⟩, hB5.trans ((Below.refl _ _).alloc (Nat.le_trans hL3 hs5) _)⟩ ⟨W5.heap.size, rfl, by go_simp, by go_simp⟩
        case body =>
          rintro l pre ⟨⟨i', xa, xr⟩, hxa⟩ a' W5 hl ⟨r, hr⟩ ⟨⟨cont5, hN5⟩, hB5⟩ ⟨Bx, rfl, hb0, hb1⟩ hlt5
          clear hBp
          dsimp only at hxa
          have f2 := hN5.field (i := 2) rfl
          have b5 := XR hN5
          have z3 := hN5.ffz 3 (by omega) xa
          have r3 := hN5.roomv hxa
          have hxai : (xa : Int) < (c.A : Int) := by omega
          have hs5 := hB5.size
          have hmx : Yba.prog.follows .mixedOrders = true := by kernel_rfl
          rw [hA0]
          simp only [List.setIfInBounds_toArray, List.set_cons_zero, List.set_cons_succ] at hb0 hb1 ⊢
          gi_wp2
          refine wpIn_still_tail 9 hmx (by kernel_rfl) (by kernel_rfl) ?_
          simp only [List.take_succ_cons, List.take_zero, List.drop_succ_cons, List.drop_zero]
          repeat still_step
          refine wpStill_nil ?_
          gi_wp2
          · have hst := hN5.setRoom hxa xr
            have e9 : wrote ((pre ++ [(⟨(i', xa, xr), hxa⟩ : { y : Nat × Nat × Int // y.2.1 < c.A })]).map Subtype.val) v2.room = (wrote (pre.map Subtype.val) v2.room).set xa xr := by
              rw [List.map_append]
              exact wrote_snoc _ _ _
            have hI9 : ∃ cont, NF L ((W5.setCell ⟨B 3, xa, none⟩ (.int .i64 xr)).drew) B c { v2 with room := wrote ((pre ++ [(⟨(i', xa, xr), hxa⟩ : { y : Nat × Nat × Int // y.2.1 < c.A })]).map Subtype.val) v2.room } (.slice ra2 v2.reached.length rc2) (.slice ca v2.changed.length cap) blk2 cont cp2 := by
              rw [e9]
              exact ⟨_, hst.grow (Below.refl _ _).drew⟩
            exact ⟨((KeepsOthers.setCell _ _ _).trans (KeepsOthers.drew _)).from _, ⟨heap_setCell_other W5 ⟨B 3, xa, none⟩ Bp _ hne3, heap_setCell_other W5 ⟨B 3, xa, none⟩ cb _ hcb3⟩, ⟨hI9, hB5.trans ((hN5.hp.storeBelow (hN5.bl 3 (by omega)) xa (iv xr)).trans (Below.refl _ _).drew)⟩⟩
        case done =>
          rintro D ys W5 hD rfl ⟨⟨cont5, hN5⟩, hB5⟩ hK
          clear hBp
          have e9 : wrote (((bk v2.changed).attachWith _ hallA).map Subtype.val) v2.room = v.room := by
            rw [List.attachWith_map_subtype_val, wrote_bk]
            exact hFI2.un
          rw [e9] at hN5
          clear e9
          have hs5 := hB5.size
          have b5 := XR hN5
          have f10 := hN5.field (i := 10) rfl
          have z0 := hN5.ffz 0 (by omega) 10
          subst hA0
          go_wp2_with fail
          go_still_tail 8, (by kernel_rfl)
          go_wp2_with fail
          obtain ⟨⟨blk6, cont6, cp6, h6⟩, hb6⟩ := hN5.cutC
          have h6' := h6.grow (Below.refl _ _).drew
          have hD0 : D ≠ B 0 := by omega
          have hK' : ((W5.setCell ⟨B 0, 10, none⟩ (Value.slice ca 0 cap)).drew).heap[D]? = some (Obj.deferred (some [])) := (heap_setCell_other W5 ⟨B 0, 10, none⟩ D _ hD0).trans hK
          refine ⟨by simp, .inl ⟨_, _, rfl, run_takeDeferred hK', ?_⟩⟩
          refine ⟨.int .i64 (f : Int), by rw [results_tmp rfl]; rfl, ?_⟩
          have h7 := h6'.own (grownBy_putObj' _ D (.deferred none)) (fun r e => by cases e; exact ⟨_, hK', rfl⟩)
          have hc1 := HC1.out
          subst hc1
          have h8 := h7.dropX hc0.hN (by omega) hxb
          have hm9 := hFI2.mks
          have hb7 : Below L (W5.setCell ⟨B 0, 10, none⟩ (Value.slice ca 0 cap)) (((W5.setCell ⟨B 0, 10, none⟩ (Value.slice ca 0 cap)).drew).putObj D (.deferred none)) := ((Below.refl _ _).drew).grown (grownBy_putObj' _ D (.deferred none)) (by have := h6.LW; exact this) (fun r e => by cases e; omega)
          exact ⟨f, _, rfl, ⟨_, _, _, _, _, h8⟩, FR, rfl, rfl, hFI2.sb, hm9.1, (show v2.mark ≤ v.mark + limit + 1 by omega), hbw3.trans (hB5.trans (hb6.trans hb7))⟩
        case stop =>
          rintro D c' pre W5 hD hp hf hK
          exact hf.elim
    · have hlti : ¬ (f : Int) < (limit : Int) := by omega
      obtain ⟨ca, cap, cb, hcv, hcb, hcb3, hcells⟩ := h1.chg
      subst hcv
      have f10 := h1.field (i := 10) rfl
      go_wp2_with (go_at_call 14; refine (back_calls _ _ _ _).mono ?_; rintro e W3 ⟨rfl, rfl⟩)
      refine abs_act ?_
      intro A0 hA0
      have hsz : (wr.alloc (.cells #[.slice ca v1.changed.length cap] 47)).heap.size = wr.heap.size + 1 := by simp
      have hbp : (wr.alloc (.cells #[.slice ca v1.changed.length cap] 47)).cell? ⟨wr.heap.size, 0, none⟩ = some (.slice ca v1.changed.length cap) := by go_simp
      have hB3 : Below wr.heap.size wr (wr.alloc (.cells #[.slice ca v1.changed.length cap] 47)) := (Below.refl _ _).alloc (Nat.le_refl _) _
      have hE := h1.grow hB3
      generalize hW3 : wr.alloc (.cells #[.slice ca v1.changed.length cap] 47) = W3 at hsz hbp hB3 hE ⊢
      have hcells3 : ∀ i, i < v1.changed.length → ca = some ⟨cb, 0, none⟩ ∧ W3.cell? ⟨cb, i * 2, none⟩ = some (.int .i64 ((v1.changed.getD i (0, 0)).1 : Int)) ∧ W3.cell? ⟨cb, i * 2 + 1, none⟩ = some (.int .i64 (v1.changed.getD i (0, 0)).2) := fun i hi => ⟨(hcells i hi).1, (hB3.cell (p := ⟨cb, i * 2, none⟩) hcb).trans (hcells i hi).2.1, (hB3.cell (p := ⟨cb, i * 2 + 1, none⟩) hcb).trans (hcells i hi).2.2⟩
      have hbw3 : Below L W W3 := hbw.trans (hB3.mono h1.LW)
      have hchl : v1.changed.length ≤ 1000000 := by
        have h1 := hFI.cl
        have h2 : 2 * (c.N + 1) * f ≤ 202 * 100 := Nat.mul_le_mul (by omega) (by omega)
        omega
      have hallA : ∀ y, y ∈ bk v1.changed → y.2.1 < c.A := fun y hy => by
        have h1 : y.2 ∈ (bk v1.changed).map (·.2) := List.mem_map_of_mem hy
        rw [bk_snd] at h1
        exact hFI.cb y.2 (List.mem_reverse.1 h1)
      obtain ⟨Bp, hBp⟩ : ∃ b, wr.heap.size = b := ⟨_, rfl⟩
      rw [hBp] at hbp hsz
      have hB03 : B 3 < wr.heap.size := (h1.hp.lt (h1.bl 3 (by omega))).2
      have hne3 : Bp ≠ B 3 := by omega
      have hcb' : cb < W3.heap.size := by omega
      have hBp' : Bp < W3.heap.size := by omega
      have hB0W : B 0 < wr.heap.size := (h1.hp.lt (h1.bl 0 (by omega))).2
      have hLC : L ≤ wr.heap.size := h1.LW
      have hL3 : L ≤ W3.heap.size := by omega
      have hB0W3 : B 0 < W3.heap.size := by omega
      have hcb4 : cb < W3.heap.size ∧ Bp < W3.heap.size := ⟨hcb', hBp'⟩
      refine rf_plain ?_
      refine wpIn_rangeFunc_ownH (F := Fence.wide) (n := 6) rfl (by omega) (gf := 15) (lb := #[.pointer (some ⟨Bp, 0, none⟩)]) (by rw [hA0]; simp [Act.eval, hBp]) trivial (enters_of Yba.func15 (by kernel_rfl) rfl)
        (back_stops (α := { y : Nat × Nat × Int // y.2.1 < c.A }) Subtype.val Fence.wide rfl trivial rfl 5 Bp cb cap ca v1.changed hchl ((bk v1.changed).attachWith _ hallA) (List.attachWith_map_subtype_val hallA) W3 hBp' hcb' hbp hcells3) Kp2.trans (Kp2.put hBp' hcb') (Below.refl _ _) (fun _ => rfl)
        (MxI L B c v1 rv1 (.slice ca v1.changed.length cap) blk1 cp1 W3) (fun _ _ _ => False) (MxI.own (by omega)) (fun _ => ownFrom_pure _ _) ⟨⟨_, hE⟩, Below.refl _ _⟩ (MxA A0) (MxA.own A0) ?assign ?body ?done ?stop
      case assign =>
        rintro l pre ⟨⟨i', xa, xr⟩, hxa⟩ W5 K ⟨⟨cont5, hN5⟩, hB5⟩ hK
        clear hBp
        subst hA0
        simp only [encP]
        gi_wp2
        have hs5 := hB5.size
        exact hK _ _ ((KeepsOthers.alloc _ _).from _) (Kp2.of_below ((Below.refl _ _).alloc (Nat.le_refl _) _) (by omega) (by omega)) ⟨⟨cont5, hN5.grow ((Below.refl _ _).alloc (Nat.le_refl _) _)⟩, hB5.trans ((Below.refl _ _).alloc (Nat.le_trans hL3 hs5) _)⟩ ⟨W5.heap.size, rfl, by go_simp, by go_simp⟩
      case body =>
        rintro l pre ⟨⟨i', xa, xr⟩, hxa⟩ a' W5 hl ⟨r, hr⟩ ⟨⟨cont5, hN5⟩, hB5⟩ ⟨Bx, rfl, hb0, hb1⟩ hlt5
        clear hBp
        dsimp only at hxa
        have f2 := hN5.field (i := 2) rfl
        have b5 := XR hN5
        have z3 := hN5.ffz 3 (by omega) xa
        have r3 := hN5.roomv hxa
        have hxai : (xa : Int) < (c.A : Int) := by omega
        have hs5 := hB5.size
        have hmx : Yba.prog.follows .mixedOrders = true := by kernel_rfl
        rw [hA0]
        simp only [List.setIfInBounds_toArray, List.set_cons_zero, List.set_cons_succ] at hb0 hb1 ⊢
        gi_wp2
        refine wpIn_still_tail 9 hmx (by kernel_rfl) (by kernel_rfl) ?_
        simp only [List.take_succ_cons, List.take_zero, List.drop_succ_cons, List.drop_zero]
        repeat still_step
        refine wpStill_nil ?_
        gi_wp2
        · have hst := hN5.setRoom hxa xr
          have e9 : wrote ((pre ++ [(⟨(i', xa, xr), hxa⟩ : { y : Nat × Nat × Int // y.2.1 < c.A })]).map Subtype.val) v1.room = (wrote (pre.map Subtype.val) v1.room).set xa xr := by
            rw [List.map_append]
            exact wrote_snoc _ _ _
          have hI9 : ∃ cont, NF L ((W5.setCell ⟨B 3, xa, none⟩ (.int .i64 xr)).drew) B c { v1 with room := wrote ((pre ++ [(⟨(i', xa, xr), hxa⟩ : { y : Nat × Nat × Int // y.2.1 < c.A })]).map Subtype.val) v1.room } rv1 (.slice ca v1.changed.length cap) blk1 cont cp1 := by
            rw [e9]
            exact ⟨_, hst.grow (Below.refl _ _).drew⟩
          exact ⟨((KeepsOthers.setCell _ _ _).trans (KeepsOthers.drew _)).from _, ⟨heap_setCell_other W5 ⟨B 3, xa, none⟩ Bp _ hne3, heap_setCell_other W5 ⟨B 3, xa, none⟩ cb _ hcb3⟩, ⟨hI9, hB5.trans ((hN5.hp.storeBelow (hN5.bl 3 (by omega)) xa (iv xr)).trans (Below.refl _ _).drew)⟩⟩
      case done =>
        rintro D ys W5 hD rfl ⟨⟨cont5, hN5⟩, hB5⟩ hK
        clear hBp
        have e9 : wrote (((bk v1.changed).attachWith _ hallA).map Subtype.val) v1.room = v.room := by
          rw [List.attachWith_map_subtype_val, wrote_bk]
          exact hFI.un
        rw [e9] at hN5
        clear e9
        have hs5 := hB5.size
        have b5 := XR hN5
        have f10 := hN5.field (i := 10) rfl
        have z0 := hN5.ffz 0 (by omega) 10
        subst hA0
        go_wp2_with fail
        go_still_tail 8, (by kernel_rfl)
        go_wp2_with fail
        obtain ⟨⟨blk6, cont6, cp6, h6⟩, hb6⟩ := hN5.cutC
        have h6' := h6.grow (Below.refl _ _).drew
        have hD0 : D ≠ B 0 := by omega
        have hK' : ((W5.setCell ⟨B 0, 10, none⟩ (Value.slice ca 0 cap)).drew).heap[D]? = some (Obj.deferred (some [])) := (heap_setCell_other W5 ⟨B 0, 10, none⟩ D _ hD0).trans hK
        refine ⟨by simp, .inl ⟨_, _, rfl, run_takeDeferred hK', ?_⟩⟩
        refine ⟨.int .i64 (f : Int), by rw [results_tmp rfl]; rfl, ?_⟩
        have h7 := h6'.own (grownBy_putObj' _ D (.deferred none)) (fun r e => by cases e; exact ⟨_, hK', rfl⟩)
        have hc1 := HC1.out
        subst hc1
        have h8 := h7.dropX hc0.hN (by omega) hxb
        have hm9 := hFI.mks
        have hb7 : Below L (W5.setCell ⟨B 0, 10, none⟩ (Value.slice ca 0 cap)) (((W5.setCell ⟨B 0, 10, none⟩ (Value.slice ca 0 cap)).drew).putObj D (.deferred none)) := ((Below.refl _ _).drew).grown (grownBy_putObj' _ D (.deferred none)) (by have := h6.LW; exact this) (fun r e => by cases e; omega)
        exact ⟨f, _, rfl, ⟨_, _, _, _, _, h8⟩, hFI.full (by omega), rfl, rfl, hFI.sb, hm9.1, (show v1.mark ≤ v.mark + limit + 1 by omega), hbw3.trans (hB5.trans (hb6.trans hb7))⟩
      case stop =>
        rintro D c' pre W5 hD hp hf hK
        exact hf.elim

end Go.Proofs.Ybulkcejy
