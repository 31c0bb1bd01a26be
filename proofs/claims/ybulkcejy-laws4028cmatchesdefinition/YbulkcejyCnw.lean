import Derived.Test.YbulkcejyGr
import Derived.StillTailTactics
namespace Go.Proofs.Ybulkcejy
open Go.RowKit
set_option linter.unusedVariables false
attribute [local go_sem] Oper.semAt_some
attribute [local go_sem ↓] Go.wp_at_zero Go.wp_at_succ

/-- What stays of the network while arcs are added. -/
structure DD (n s b0 sb : Nat) (u : Nat) (d : BD) : Prop where
  N : d.N = s + 1
  b0 : d.b0 = b0
  sink : d.sink = (s : Int)
  unb : d.unb = (n : Int) + 1
  xb : d.xb = updF (fun _ => none) 1003 (some sb)
  xl : (d.xc 1003).length = n
  xc : ∀ i, i < u → (d.xc 1003)[i]? = some (.int .i64 ((4 * i : Nat) : Int))
theorem DD.arc {n s b0 sb u : Nat} {d : BD} (h : DD n s b0 sb u d) (x y : Nat) (cap : Int) (tv rv : Value) (ov : Nat → Value) : DD n s b0 sb u (arcD d x y cap tv rv ov) := ⟨h.N, h.b0, h.sink, h.unb, h.xb, h.xl, h.xc⟩
theorem DD.set {n s b0 sb u : Nat} {d : BD} (h : DD n s b0 sb u d) (hu : u < n) : DD n s b0 sb (u + 1) (setB d 1003 ((d.xc 1003).set u (.int .i64 ((4 * u : Nat) : Int)))) := by
  have e : (setB d 1003 ((d.xc 1003).set u (.int .i64 ((4 * u : Nat) : Int)))).xc 1003 = (d.xc 1003).set u (.int .i64 ((4 * u : Nat) : Int)) := by
    simp [setB, updF]
  refine ⟨h.N, h.b0, h.sink, h.unb, h.xb, by rw [e, List.length_set]; exact h.xl, fun i hi => ?_⟩
  rw [e, List.getElem?_set]
  by_cases q : u = i
  · subst q
    rw [if_pos rfl, if_pos (by rw [h.xl]; exact hu)]
  · rw [if_neg q]
    exact h.xc i (by omega)
theorem CI.set {n : Nat} {ts : List (Nat × Nat)} {d : BD} {m : Nat} (h : CI n ts d m) (l : Nat) (xs : List Value) : CI n ts (setB d l xs) m := ⟨h.lt, h.lr, h.ev, h.to, h.rm, h.og, h.all, h.ol⟩
def CutOut (W : World) (n : Nat) (ts : List (Nat × Nat)) (e : Ending) (W' : World) : Prop := ∃ d b0 sb, e = .returned (.tuple #[.pointer (some ⟨b0, 0, none⟩), .slice (some ⟨sb, 0, none⟩) n n]) ∧ BX W.heap.size W' d ∧ CI n ts d (4 * n + 2 * ts.length) ∧ DD n (2 * n) b0 sb n d ∧ Below W.heap.size W W'
theorem cap0 {n u : Nat} (h : u < n) : aCap n (fun _ => false) (4 * u) = 1 := by unfold aCap; rw [if_pos (by omega), if_pos (by omega)]; rfl
theorem cap1 {n u : Nat} (h : u < n) : aCap n (fun _ => false) (4 * u + 1) = 0 := by unfold aCap; rw [if_pos (by omega), if_neg (by omega), if_neg (by omega)]
theorem cap2 {n u : Nat} (h : u < n) : aCap n (fun _ => false) (4 * u + 2) = 2 := by unfold aCap; rw [if_pos (by omega), if_neg (by omega), if_pos (by omega)]
theorem cap3 {n u : Nat} (h : u < n) : aCap n (fun _ => false) (4 * u + 3) = 0 := by unfold aCap; rw [if_pos (by omega), if_neg (by omega), if_neg (by omega)]
theorem capE (n k : Nat) : aCap n (fun _ => false) (4 * n + 2 * k) = (n : Int) + 1 := by unfold aCap; rw [if_neg (by omega), if_pos (by omega)]
theorem capO (n k : Nat) : aCap n (fun _ => false) (4 * n + (2 * k + 1)) = 0 := by unfold aCap; rw [if_neg (by omega), if_neg (by omega)]

set_option maxRecDepth 100000 in
set_option maxHeartbeats 8000000 in
theorem cut_calls (W : World) (gb n : Nat) (ts : List (Nat × Nat)) (ua : Option Addr) (uc : Nat) (ta : Option Addr) (tb tc fb : Nat) (hG : GraphAt W.heap.size W gb n ts ua uc ta tb tc fb) (hn1 : 1 ≤ n) (hn : n ≤ 10) (ht : ∀ t, t ∈ ts → t.1 < n ∧ t.2 < n) (hts : ts.length ≤ 200) :
    Calls Yba.prog 8 #[.pointer (some ⟨gb, 0, none⟩)] W (CutOut W n ts) := by
  have gu := hG.u
  obtain ⟨s, hs⟩ : ∃ s, 2 * n = s := ⟨_, rfl⟩
  have m37 := make37 n (by omega)
  have hn0 : (0 : Int) ≤ (n : Int) := by omega
  have hn9 : (n : Int) ≤ 10 := by omega
  go_enter Yba.func8, Yba.ntmps8
  go_wp2_with (go_at_call 10; refine (newNetwork_calls' (s + 1) _ _ (by omega) _ (by omega)).mono ?_; rintro e W1 ⟨b0, b1, b4, b5, b6, rfl, hnew⟩; obtain ⟨blk, cont, cp, h0⟩ := hnew.bx (by omega); have f3 : W1.cell? ⟨b0, 3, none⟩ = some (.int .i64 0) := h0.field (i := 3) rfl; have z3 : W1.frozen? ⟨b0, 3, none⟩ = false := h0.hp.frozen h0.b0 3)
  have hsz : (W1.setCell ⟨b0, 3, none⟩ (.int .i64 (2 * (n : Int)))).heap.size = W1.heap.size := by simp
  have hX0 := (h0.setSink (2 * (n : Int))).addB (l := 1003) (by omega) rfl (t := 3) (by omega) (W' := (W1.setCell ⟨b0, 3, none⟩ (.int .i64 (2 * (n : Int)))).alloc (.cells (madeCells #[.int .i64 0] n) 3)) (cur := madeCells #[.int .i64 0] n) ((Below.refl _ _).alloc (Nat.le_refl _) _) (World.alloc_heap_new _ _)
  have hX0 : BX W.heap.size ((W1.setCell ⟨b0, 3, none⟩ (.int .i64 (2 * (n : Int)))).alloc (.cells (madeCells #[.int .i64 0] n) 3)) (addB { bd0 (s + 1) b0 b1 b4 b5 b6 ((n : Int) + 1) with sink := 2 * (n : Int) } 1003 (W1.setCell ⟨b0, 3, none⟩ (.int .i64 (2 * (n : Int)))).heap.size (madeCells #[.int .i64 0] n).toList) := hX0
  rw [hsz] at hX0
  have hCI0 : CI n ts (addB { bd0 (s + 1) b0 b1 b4 b5 b6 ((n : Int) + 1) with sink := 2 * (n : Int) } 1003 W1.heap.size (madeCells #[.int .i64 0] n).toList) (4 * 0) := CI.new n ts _ rfl rfl rfl
  have hDD0 : DD n s b0 W1.heap.size 0 (addB { bd0 (s + 1) b0 b1 b4 b5 b6 ((n : Int) + 1) with sink := 2 * (n : Int) } 1003 W1.heap.size (madeCells #[.int .i64 0] n).toList) := by
    refine ⟨rfl, rfl, by show 2 * (n : Int) = (s : Int); omega, rfl, rfl, ?_, fun i hi => absurd hi (by omega)⟩
    show (updF (fun _ => []) 1003 (madeCells #[.int .i64 0] n).toList 1003).length = n
    rw [updF_same, made_list]
    simp
  have hbA : Below W.heap.size W ((W1.setCell ⟨b0, 3, none⟩ (.int .i64 (2 * (n : Int)))).alloc (.cells (madeCells #[.int .i64 0] n) 3)) := hnew.bel.trans ((h0.hp.storeBelow h0.b0 3 (iv (2 * (n : Int)))).trans ((Below.refl _ _).alloc (h0.setSink (2 * (n : Int))).LW _))
  obtain ⟨sb, hsb⟩ : ∃ x, W1.heap.size = x := ⟨_, rfl⟩
  rw [hsb] at hX0 hCI0 hDD0
  clear h0 hnew f3 z3 hsz
  go_loopg [29] n (fun g s29 wr => ∃ (d : BD) (u : Nat), u + g = n ∧ s29 = .int .i64 (u : Int) ∧ BX W.heap.size wr d ∧ CI n ts d (4 * u) ∧ DD n s b0 sb u d ∧ Below W.heap.size W wr)
  case atStart => exact ⟨_, 0, by omega, rfl, hX0, hCI0, hDD0, hbA⟩
  case round =>
    clear hX0 hCI0 hDD0 hbA
    subst hsb
    obtain ⟨d, u, hug, rfl, ⟨blk, cont, cp, h⟩, hCI, hDD, hbw⟩ := hrel
    have HG : Hid (u + gk = n) := hug
    have hul : u ≤ n := by omega
    clear hug
    by_cases hlt : u < n
    · have hlti : (u : Int) < (n : Int) := by omega
      have hui0 : (0 : Int) ≤ (u : Int) := by omega
      have hdN := hDD.N
      have hd0 := hDD.b0
      have f3 : wr.cell? ⟨b0, 3, none⟩ = some (.int .i64 (s : Int)) := by rw [← hd0, ← hDD.sink]; exact h.field (i := 3) rfl
      have ol : ∀ w, w < d.N → (d.og w).length ≤ 100000 := fun w hw => by have := hCI.ol w hw; omega
      have K1 := addArc_calls' W.heap.size d wr u s (u : Int) (s : Int) 1 rfl rfl ⟨_, _, _, h⟩ (by omega) (by omega) (by rw [hCI.lt]; omega) (by rw [hCI.lr]; omega) ol
      rw [hd0] at K1
      have hlenv := hCI.lt
      have HLE : Hid (d.to.length = 4 * u) := hlenv
      clear hlenv
      have K2 : ∀ {W5 : World} {tv5 rv5 : Value} {ov5 : Nat → Value}, BX W.heap.size W5 (arcD d u s 1 tv5 rv5 ov5) → ∃ d6, BX W.heap.size (W5.setCell ⟨W1.heap.size, u, none⟩ (.int .i64 (d.to.length : Int))) d6 ∧ CI n ts d6 (4 * u + 2) ∧ DD n s b0 W1.heap.size (u + 1) d6 ∧ Below W.heap.size W5 (W5.setCell ⟨W1.heap.size, u, none⟩ (.int .i64 (d.to.length : Int))) ∧ Calls Yba.prog 11 #[.pointer (some ⟨b0, 0, none⟩), .int .i64 ((n : Int) + (u : Int)), .int .i64 (u : Int), .int .i64 2] (W5.setCell ⟨W1.heap.size, u, none⟩ (.int .i64 (d.to.length : Int))) (ArcOut W.heap.size d6 (n + u) u 2 (W5.setCell ⟨W1.heap.size, u, none⟩ (.int .i64 (d.to.length : Int)))) := by
        intro W5 tv5 rv5 ov5 hX5
        obtain ⟨blk5, cont5, cp5, h5⟩ := hX5
        have hD5 := hDD.arc u s 1 tv5 rv5 ov5
        obtain ⟨hX6, hb6⟩ := h5.setB (l := 1003) (b := W1.heap.size) (i := u) (by omega) (by rw [hD5.xb]; exact updF_same _ _ _) (by rw [hD5.xl]; exact hlt) (.int .i64 (d.to.length : Int))
        have e4 : ((d.to.length : Nat) : Int) = ((4 * u : Nat) : Int) := by rw [HLE.out]
        have hD6 := hD5.set hlt
        have hC5 := hCI.step (u := u) (v := s) (cap := 1) (by omega) (by omega) (by rw [aTo0 ts hlt]; exact hs) (aTo1 ts hlt) (cap0 hlt) (cap1 hlt) tv5 rv5 ov5
        have hC6 := hC5.set 1003 (((arcD d u s 1 tv5 rv5 ov5).xc 1003).set u (.int .i64 ((d.to.length : Nat) : Int)))
        rw [← e4] at hD6
        refine ⟨_, hX6, hC6, hD6, hb6, ?_⟩
        have K := addArc_calls' W.heap.size _ (W5.setCell ⟨W1.heap.size, u, none⟩ (.int .i64 (d.to.length : Int))) (n + u) u ((n : Int) + (u : Int)) (u : Int) 2 (by push_cast; rfl) rfl hX6 (by rw [hD6.N]; omega) (by rw [hD6.N]; omega) (by rw [hC6.lt]; omega) (by rw [hC6.lr]; omega) (fun w hw => by have := hC6.ol w hw; omega)
        rw [hD6.b0] at K
        exact K
      have C5 : ∀ {W5 : World} {tv5 rv5 : Value} {ov5 : Nat → Value}, BX W.heap.size W5 (arcD d u s 1 tv5 rv5 ov5) → (∃ y, W5.cell? ⟨W1.heap.size, u, none⟩ = some y) ∧ W5.frozen? ⟨W1.heap.size, u, none⟩ = false := by
        intro W5 tv5 rv5 ov5 hX5
        obtain ⟨blk5, cont5, cp5, h5⟩ := hX5
        have hD5 := hDD.arc u s 1 tv5 rv5 ov5
        exact ⟨⟨_, h5.xread (l := 1003) (by omega) (by rw [hD5.xb]; exact updF_same _ _ _) (List.getElem?_eq_getElem (by rw [hD5.xl]; exact hlt))⟩, h5.xfz (l := 1003) u (by omega) (by rw [hD5.xb]; exact updF_same _ _ _)⟩
      have K1' : Calls Yba.prog 11 #[.pointer (some ⟨b0, 0, none⟩), .int .i64 (u : Int), .int .i64 (s : Int), .int .i64 1] wr (ArcOut W.heap.size d u s 1 wr) := K1
      clear K1
      go_wp2_with fail
      refine K1'.mono ?_
      rintro e W5 ⟨tv5, rv5, ov5, rfl, hX5, hb5⟩
      obtain ⟨⟨y5, c5⟩, z5⟩ := C5 hX5
      obtain ⟨d6, hX6, hC6, hD6, hb6, K2'⟩ := K2 hX5
      clear K2 C5 K1'
      go_wp2_with fail
      refine K2'.mono ?_
      rintro e W7 ⟨tv7, rv7, ov7, rfl, hX7, hb7⟩
      go_wp2_with fail
      have hC7 := hC6.step (u := n + u) (v := u) (cap := 2) (by rw [hD6.N]; omega) (by rw [hD6.N]; omega) (aTo2 ts hlt) (aTo3 ts hlt) (cap2 hlt) (cap3 hlt) tv7 rv7 ov7
      go_roundg (gk - 1)
      case measure =>
        have := HG.out
        omega
      case rel =>
        have := HG.out
        exact ⟨_, u + 1, by omega, by push_cast; rfl, hX7, by rw [show 4 * (u + 1) = 4 * u + 2 + 2 by omega]; exact hC7, hD6.arc (n + u) u 2 tv7 rv7 ov7, hbw.trans (hb5.trans (hb6.trans hb7))⟩
    · have hlti : ¬ (u : Int) < (n : Int) := by omega
      obtain rfl : n = u := by omega
      have hG1 := hG.below hbw
      have gt := hG1.t
      go_wp2_with fail
      go_loopg [54] ts.length (fun g s54 wq => ∃ (d : BD) (k : Nat), k + g = ts.length ∧ s54 = .int .i64 (k : Int) ∧ BX W.heap.size wq d ∧ CI n ts d (4 * n + 2 * k) ∧ DD n s b0 W1.heap.size n d ∧ Below W.heap.size W wq)
      case atStart => exact ⟨d, 0, by omega, rfl, ⟨_, _, _, h⟩, hCI, hDD, hbw⟩
      case round =>
        clear h hCI hDD hbw hG1 gt HG
        obtain ⟨d, k, hkg, rfl, ⟨blk, cont, cp, h⟩, hCI, hDD, hbw⟩ := hrel
        have HK : Hid (k + gk = ts.length) := hkg
        have hkl : k ≤ ts.length := by omega
        clear hkg
        by_cases hk : k < ts.length
        · have hki : (k : Int) < (ts.length : Int) := by omega
          obtain ⟨hta, t0, t1⟩ := (hG.below hbw).tk k hk
          subst hta
          obtain ⟨x, hx⟩ : ∃ x, (ts.getD k (0, 0)).1 = x := ⟨_, rfl⟩
          obtain ⟨y, hy⟩ : ∃ y, (ts.getD k (0, 0)).2 = y := ⟨_, rfl⟩
          have hxy := ht _ (getD_in hk)
          have HX : Hid ((ts.getD k (0, 0)).1 = x) := hx
          have HY : Hid ((ts.getD k (0, 0)).2 = y) := hy
          rw [hx] at t0 hxy
          rw [hy] at t1 hxy
          clear hx hy
          go_wp2_with fail
          have hdN := hDD.N
          have hd0 := hDD.b0
          refine abs_world (fun W' => BX W.heap.size W' d ∧ W'.cell? ⟨wr.heap.size, 0, none⟩ = some (.int .i64 (x : Int)) ∧ W'.cell? ⟨wr.heap.size, 1, none⟩ = some (.int .i64 (y : Int)) ∧ Below W.heap.size W W') ⟨⟨_, _, _, h.grow ((Below.refl _ _).alloc (Nat.le_refl _) _)⟩, by go_simp, by go_simp, hbw.trans ((Below.refl _ _).alloc h.LW _)⟩ (fun W4 ⟨⟨blk4, cont4, cp4, h4⟩, c0, c1, hb4⟩ => ?_)
          clear t0 t1
          have f4 : W4.cell? ⟨b0, 4, none⟩ = some (.int .i64 ((n : Int) + 1)) := by rw [← hd0, ← hDD.unb]; exact h4.field (i := 4) rfl
          go_still_tail 11, (by kernel_rfl)
          go_wp2_with fail
          have K1 : Calls Yba.prog 11 #[.pointer (some ⟨b0, 0, none⟩), .int .i64 (y : Int), .int .i64 ((n : Int) + (x : Int)), .int .i64 ((n : Int) + 1)] W4.drew (ArcOut W.heap.size d y (n + x) ((n : Int) + 1) W4.drew) := by
            have K := addArc_calls' W.heap.size d W4.drew y (n + x) (y : Int) ((n : Int) + (x : Int)) ((n : Int) + 1) rfl (by push_cast; rfl) ⟨_, _, _, h4.grow (Below.refl _ _).drew⟩ (by omega) (by omega) (by rw [hCI.lt]; omega) (by rw [hCI.lr]; omega) (fun w hw => by have := hCI.ol w hw; omega)
            rw [hd0] at K
            exact K
          refine K1.mono ?_
          rintro e W7 ⟨tv7, rv7, ov7, rfl, hX7, hb7⟩
          have hC7 := hCI.step (u := y) (v := n + x) (cap := (n : Int) + 1) (by omega) (by omega) (by rw [aToE, HX.out]) (by rw [show 4 * n + 2 * k + 1 = 4 * n + (2 * k + 1) by omega, aToO, HY.out]) (capE n k) (by rw [show 4 * n + 2 * k + 1 = 4 * n + (2 * k + 1) by omega, capO]) tv7 rv7 ov7
          go_wp2_with fail
          go_roundg (gk - 1)
          case measure =>
            have := HK.out
            omega
          case rel =>
            have := HK.out
            exact ⟨_, k + 1, by omega, by push_cast; rfl, hX7, by rw [show 4 * n + 2 * (k + 1) = 4 * n + 2 * k + 2 by omega]; exact hC7, hDD.arc y (n + x) ((n : Int) + 1) tv7 rv7 ov7, hb4.trans ((Below.refl _ _).drew.trans hb7)⟩
        · have hki : ¬ (k : Int) < (ts.length : Int) := by omega
          obtain rfl : ts.length = k := by omega
          go_wp2_with fail
          go_ret2
          exact ⟨d, b0, W1.heap.size, rfl, ⟨_, _, _, h⟩, hCI, by rw [hs]; exact hDD, hbw⟩
end Go.Proofs.Ybulkcejy
