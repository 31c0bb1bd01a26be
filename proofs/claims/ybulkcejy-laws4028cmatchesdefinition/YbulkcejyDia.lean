import Derived.Test.YbulkcejyDiaP
namespace Go.Proofs.Ybulkcejy
open Go.RowKit
set_option linter.unusedVariables false
attribute [local go_sem] Oper.semAt_some
attribute [local go_sem ↓] Go.wp_at_zero Go.wp_at_succ
theorem make27 (N : Nat) (hN : N ≤ 100) (w : World) : (Instr.makeSlice 27 (.int .i64 (N : Int)) (.int .i64 (N : Int))).run Yba.prog w = .ok (.slice (some ⟨w.heap.size, 0, none⟩) N N) (w.alloc (.cells (madeCells #[.bool false] N) 4)) :=
  run_make_row' 27 4 _ 1 Yba.underlying27 Yba.info4 rfl _ _ N (by omega) (by omega) w
def DiaOut (L : Nat) (W : World) (n : Nat) (ts : List (Nat × Nat)) (e : Ending) (W' : World) : Prop := ∃ h : Nat, e = .returned (.int .i64 (((h : Int) - 1).tdiv 2)) ∧ IsH n ts (Some' n) (h : Int) ∧ Below L W W'

set_option maxRecDepth 100000 in
set_option maxHeartbeats 8000000 in
theorem diag_calls (W : World) (gb n : Nat) (ts : List (Nat × Nat)) (ua : Option Addr) (uc : Nat) (ta : Option Addr) (tb tc fb : Nat) (hG : GraphAt W.heap.size W gb n ts ua uc ta tb tc fb) (hn1 : 1 ≤ n) (hn : n ≤ 10) (hnd : ts.Nodup) (ht : ∀ t, t ∈ ts → t.1 < n ∧ t.2 < n ∧ t.1 ≠ t.2) (hts : ts.length ≤ 200) :
    Calls Yba.prog 6 #[.pointer (some ⟨gb, 0, none⟩)] W (DiaOut W.heap.size W n ts) := by
  have gu := hG.u
  have m27 := make27 n (by omega)
  have hn0 : (0 : Int) ≤ (n : Int) := by omega
  have hn9 : (n : Int) ≤ 10 := by omega
  go_enter Yba.func6, Yba.ntmps6
  go_wp2_with fail
  refine (cut_calls W gb n ts ua uc ta tb tc fb hG hn1 hn (fun t h => ⟨(ht t h).1, (ht t h).2.1⟩) hts).mono ?_
  rintro e W1 ⟨d, b0, sb, rfl, ⟨blk, cont, cp, h⟩, hCI, hDD, hb1⟩
  go_wp2_with fail
  have hm : 0 < 4 * n + 2 * ts.length := by omega
  obtain ⟨B, tcc, rcc, hB0, hNF⟩ := h.toNF hCI hm (by rw [hDD.sink])
  obtain rfl : B 0 = b0 := hB0.trans hDD.b0
  have hN100 : (netOf d n (4 * n + 2 * ts.length) tcc rcc).N ≤ 100 := by show d.N ≤ 100; rw [hDD.N]; omega
  have hX0 := hNF.addX hN100 (l := 1004) (by omega) (by show d.xb 1004 = none; rw [hDD.xb]; rfl) (t := 4) (by omega) (W' := W1.alloc (.cells (madeCells #[.bool false] n) 4)) (cur := madeCells #[.bool false] n) ((Below.refl _ _).alloc (Nat.le_refl _) _) (World.alloc_heap_new _ _)
  have hwf := netOf_wf hCI hDD.N hn (fun t h => ⟨(ht t h).1, (ht t h).2.1⟩) rfl (by omega) tcc rcc
  have hDC0 : DC n ts sb W1.heap.size 0 (addX (netOf d n (4 * n + 2 * ts.length) tcc rcc) 1004 W1.heap.size (madeCells #[.bool false] n).toList) := by
    refine ⟨hDD.N, rfl, rfl, hDD.unb, hCI.to, ?_, ?_, ?_, fun i hi => ?_, ?_, fun i hi => ?_, hwf.addX _ _ _, netOf_all hCI tcc rcc⟩
    · show updF d.xb 1004 (some W1.heap.size) 1003 = _
      rw [updF_ne _ _ (by omega), hDD.xb]
      exact updF_same _ _ _
    · show updF d.xb 1004 (some W1.heap.size) 1004 = _
      exact updF_same _ _ _
    · show updF d.xb 1004 (some W1.heap.size) 1043 = _
      rw [updF_ne _ _ (by omega), hDD.xb]
      exact updF_ne _ _ (by omega)
    · show (updF d.xc 1004 (madeCells #[.bool false] n).toList 1003)[i]? = _
      rw [updF_ne _ _ (by omega)]
      exact hDD.xc i hi
    · show (updF d.xc 1004 (madeCells #[.bool false] n).toList 1004).length = _
      rw [updF_same, made_list]
      simp
    · show (updF d.xc 1004 (madeCells #[.bool false] n).toList 1004)[i]? = _
      rw [updF_same, made_list, List.getElem?_replicate, if_pos hi]
      simp
  have hDV0 : DV n ts 0 (addX (netOf d n (4 * n + 2 * ts.length) tcc rcc) 1004 W1.heap.size (madeCells #[.bool false] n).toList) (nv0 d) := by
    refine ⟨fun a ha => ?_, rfl, fun w hw => ?_, Int.le_refl _, by show (0 : Int) ≤ _; simp⟩
    · have e : (fun u => decide (u < 0)) = (fun _ : Nat => false) := by funext u; simp
      rw [e]
      exact hCI.rm a ha
    · show (List.replicate d.N (0 : Int)).getD w 0 ≤ 0
      rw [List.getD_eq_getElem?_getD, List.getElem?_replicate]
      split <;> simp
  have hbA : Below W.heap.size W (W1.alloc (.cells (madeCells #[.bool false] n) 4)) := hb1.trans ((Below.refl _ _).alloc hNF.LW _)
  have hS0 : St W.heap.size B (addX (netOf d n (4 * n + 2 * ts.length) tcc rcc) 1004 W1.heap.size (madeCells #[.bool false] n).toList) (nv0 d) (W1.alloc (.cells (madeCells #[.bool false] n) 4)) := ⟨_, _, _, _, _, hX0⟩
  clear hX0 hwf hNF hN100 h hCI hDD hb1 hB0 m27
  go_loopg [26, 7] n (fun g s26 s7 wr => ∃ (c : Net) (v : NV) (x hh : Nat), x + g = n ∧ s26 = .int .i64 (x : Int) ∧ s7 = .int .i64 (hh : Int) ∧ St W.heap.size B c v wr ∧ DC n ts sb W1.heap.size x c ∧ DV n ts x c v ∧ IsH n ts (Upto n x) (hh : Int) ∧ Below W.heap.size W wr)
  case atStart => exact ⟨_, _, 0, n, by omega, rfl, rfl, hS0, hDC0, hDV0, start_h n ts, hbA⟩
  case round =>
    clear hS0 hDC0 hDV0 hbA
    obtain ⟨c, v, x, hh, hxg, rfl, rfl, ⟨rv, cv, blk, cont, cp, h⟩, hDC, hDV, hH, hbw⟩ := hrel
    have HG : Hid (x + gk = n) := hxg
    have hxl : x ≤ n := by omega
    clear hxg
    have hhn : (hh : Int) ≤ n := hH.1
    by_cases hx : x < n
    · have hxi : (x : Int) < (n : Int) := by omega
      have hG1 := hG.below hbw
      have gf := hG1.f
      have gt := hG1.t
      obtain ⟨ra, rb, rc, q1, q2, q3⟩ := hG1.fk x hx
      obtain ⟨ll, hll⟩ : ∃ l, (lst ts x).length = l := ⟨_, rfl⟩
      have HLL : Hid ((lst ts x).length = ll) := hll
      have hll2 : ll ≤ 200 := by have := lst_le ts x; omega
      rw [hll] at q1 q3
      clear hll
      have HQ3 : Hid (∀ j, j < ll → ra = some ⟨rb, 0, none⟩ ∧ wr.cell? ⟨rb, j, none⟩ = some (.int .i64 ((lst ts x).getD j 0 : Int))) := q3
      clear q3
      go_wp2_with fail
      go_loopg [46, 9] ll (fun g s46 s9 wq => ∃ j : Nat, j + g = ll ∧ s46 = .int .i64 (j : Int) ∧ s9 = .int .i64 (1 + (ll : Int) + (lcnt ts x j : Int)) ∧ wq = wr)
      case atStart => exact ⟨0, by omega, rfl, by simp [lcnt], rfl⟩
      case round =>
        obtain ⟨j, hjg, rfl, rfl, rfl⟩ := hrel
        have HJ : Hid (j + gk = ll) := hjg
        have hjl : j ≤ ll := by omega
        clear hjg
        have hlc : lcnt ts x j ≤ 200 := by have := lcnt_le ts x j; have := HLL.out; omega
        by_cases hj : j < ll
        · have hji : (j : Int) < (ll : Int) := by omega
          obtain ⟨hra, cj⟩ := HQ3.out j hj
          subst hra
          obtain ⟨k, hke⟩ : ∃ k, (lst ts x).getD j 0 = k := ⟨_, rfl⟩
          have HKE : Hid ((lst ts x)[j]? = some k) := by
            show (lst ts x)[j]? = some k
            rw [← hke, List.getD_eq_getElem?_getD, List.getElem?_eq_getElem (by rw [HLL.out]; exact hj)]
            rfl
          rw [hke] at cj
          clear hke
          have hk : k < ts.length := lst_lt (List.mem_of_getElem? HKE.out)
          obtain ⟨hta, t0, t1⟩ := hG1.tk k hk
          subst hta
          obtain ⟨t, hte⟩ : ∃ t, (ts.getD k (0, 0)).1 = t := ⟨_, rfl⟩
          have HTE : Hid ((ts.getD k (0, 0)).1 = t) := hte
          have htn : t < n := by rw [← hte]; exact (ht _ (getD_in hk)).1
          rw [hte] at t0
          clear hte t1
          have tr0 := h.xread (l := 1004) (by omega) hDC.b4 (hDC.x4 t htn)
          have hki : (k : Int) < (ts.length : Int) := by omega
          have hti : (t : Int) < (n : Int) := by omega
          have hsuc := lcnt_succ HKE.out
          rw [HTE.out] at hsuc
          have HSUC : Hid (lcnt ts x (j + 1) = lcnt ts x j + (if decide (t < x) then 1 else 0)) := hsuc
          clear hsuc
          by_cases htx : t < x
          · rw [decide_eq_true htx] at tr0
            go_wp2_with fail
            go_roundg (gk - 1)
            case measure =>
              have := HJ.out
              omega
            case rel =>
              have := HJ.out
              have e := HSUC.out
              rw [if_pos (decide_eq_true htx)] at e
              exact ⟨j + 1, by omega, by push_cast; rfl, by rw [e]; push_cast; exact congrArg (Value.int .i64) (by omega), rfl⟩
          · rw [decide_eq_false htx] at tr0
            go_wp2_with fail
            go_roundg (gk - 1)
            case measure =>
              have := HJ.out
              omega
            case rel =>
              have := HJ.out
              have e := HSUC.out
              rw [if_neg (by rw [decide_eq_false htx]; simp)] at e
              exact ⟨j + 1, by omega, by push_cast; rfl, by rw [e, Nat.add_zero], rfl⟩
        · have hji : ¬ (j : Int) < (ll : Int) := by omega
          obtain rfl : ll = j := by omega
          have hle : least ts x = 1 + (ll : Int) + (lcnt ts x ll : Int) := by rw [least_cnt, HLL.out]
          have HLE : Hid (least ts x = 1 + (ll : Int) + (lcnt ts x ll : Int)) := hle
          clear hle
          by_cases hlh : 1 + (ll : Int) + (lcnt ts x ll : Int) < (hh : Int)
          · go_wp2_with fail
            refine (maxFlow_calls W.heap.size B c hDC.wf hDC.hog v wr x hh ⟨_, _, _, _, _, h⟩ (by rw [hDC.N]; omega) (by rw [hDC.sink]; omega) (by omega) (hDV.rm hn hDC.wf.ev) hDV.sb hDV.m0 (by have := hDV.m1; omega) hDV.ch hDC.bx).mono ?_
            rintro e W4 ⟨f, v4, rfl, ⟨rv4, cv4, blk4, cont4, cp4, h4⟩, hFR, hr4, hc4, hs4, hm4, hm5, hb4⟩
            have hIS := step_flow (fun t h => ht t h) hx hH (hFR.FR hDC hDV)
            have hfh : (f : Int) ≤ (hh : Int) := by
              obtain ⟨_, _, _, hle, _⟩ := hFR
              omega
            have hbw4 := hbw.trans hb4
            have tr4 := h4.xread (l := 1004) (by omega) hDC.b4 (hDC.x4 x hx)
            have zr4 := h4.xfz (l := 1004) x (by omega) hDC.b4
            clear q1 gf gt hG1
            go_wp2_with fail
            · refine abs_world (fun W' => St W.heap.size B (setX c 1004 ((c.xc 1004).set x (.bool true))) v4 W' ∧ Below W.heap.size W W') ⟨(h4.setX hDC.wf.hN (l := 1004) (by omega) hDC.b4 (by rw [hDC.l4]; exact hx) (.bool true)).1, hbw4.trans (h4.setX hDC.wf.hN (l := 1004) (by omega) hDC.b4 (by rw [hDC.l4]; exact hx) (.bool true)).2⟩ (fun W5 ⟨⟨rv5, cv5, blk5, cont5, cp5, h5⟩, hb5⟩ => ?_)
              have hDC5 := hDC.next hx
              have f2 := h5.field (i := 2) rfl
              have f4 : W5.cell? ⟨B 0, 4, none⟩ = some (.int .i64 ((n : Int) + 1)) := by rw [← hDC.unb]; exact h5.field (i := 4) rfl
              obtain ⟨q, hq⟩ : ∃ q, 4 * x = q := ⟨_, rfl⟩
              have s5 : W5.cell? ⟨sb, x, none⟩ = some (.int .i64 (q : Int)) := by rw [← hq]; exact h5.xread (l := 1003) (by omega) hDC5.b3 (hDC5.x3 x hx)
              have hqA : q < c.A := by rw [hDC.A]; omega
              have hqi : (q : Int) < (c.A : Int) := by omega
              have z5 := h5.ffz 3 (by omega) q
              have r5 := h5.roomv (a := q) hqA
              have hAeq : (setX c 1004 ((c.xc 1004).set x (.bool true))).A = c.A := rfl
              have hReq : (setX c 1004 ((c.xc 1004).set x (.bool true))).rc = c.rc := rfl
              rw [hAeq, hReq] at f2
              go_still_tail 13, (by kernel_rfl)
              go_wp2_with fail
              go_roundg (n - x - 1)
              case measure =>
                have := HG.out
                omega
              case rel =>
                have := HG.out
                exact ⟨_, _, x + 1, f, by omega, by push_cast; rfl, rfl, ⟨_, _, _, _, _, (h5.setRoom (a := q) hqA ((n : Int) + 1)).grow (Below.refl _ _).drew⟩, hDC5, by rw [← hq]; exact hDV.next hDC hx h4.l3 hr4 hc4 hs4 hm4 (by omega), hIS, hb5.trans ((h5.hp.storeBelow (h5.bl 3 (by omega)) q (iv ((n : Int) + 1))).trans (Below.refl _ _).drew)⟩
            · have efh : f = hh := by omega
              refine abs_world (fun W' => St W.heap.size B (setX c 1004 ((c.xc 1004).set x (.bool true))) v4 W' ∧ Below W.heap.size W W') ⟨(h4.setX hDC.wf.hN (l := 1004) (by omega) hDC.b4 (by rw [hDC.l4]; exact hx) (.bool true)).1, hbw4.trans (h4.setX hDC.wf.hN (l := 1004) (by omega) hDC.b4 (by rw [hDC.l4]; exact hx) (.bool true)).2⟩ (fun W5 ⟨⟨rv5, cv5, blk5, cont5, cp5, h5⟩, hb5⟩ => ?_)
              have hDC5 := hDC.next hx
              have f2 := h5.field (i := 2) rfl
              have f4 : W5.cell? ⟨B 0, 4, none⟩ = some (.int .i64 ((n : Int) + 1)) := by rw [← hDC.unb]; exact h5.field (i := 4) rfl
              obtain ⟨q, hq⟩ : ∃ q, 4 * x = q := ⟨_, rfl⟩
              have s5 : W5.cell? ⟨sb, x, none⟩ = some (.int .i64 (q : Int)) := by rw [← hq]; exact h5.xread (l := 1003) (by omega) hDC5.b3 (hDC5.x3 x hx)
              have hqA : q < c.A := by rw [hDC.A]; omega
              have hqi : (q : Int) < (c.A : Int) := by omega
              have z5 := h5.ffz 3 (by omega) q
              have r5 := h5.roomv (a := q) hqA
              have hAeq : (setX c 1004 ((c.xc 1004).set x (.bool true))).A = c.A := rfl
              have hReq : (setX c 1004 ((c.xc 1004).set x (.bool true))).rc = c.rc := rfl
              rw [hAeq, hReq] at f2
              go_still_tail 13, (by kernel_rfl)
              go_wp2_with fail
              go_roundg (n - x - 1)
              case measure =>
                have := HG.out
                omega
              case rel =>
                have := HG.out
                exact ⟨_, _, x + 1, hh, by omega, by push_cast; rfl, rfl, ⟨_, _, _, _, _, (h5.setRoom (a := q) hqA ((n : Int) + 1)).grow (Below.refl _ _).drew⟩, hDC5, by rw [← hq]; exact hDV.next hDC hx h4.l3 hr4 hc4 hs4 hm4 (by omega), efh ▸ hIS, hb5.trans ((h5.hp.storeBelow (h5.bl 3 (by omega)) q (iv ((n : Int) + 1))).trans (Below.refl _ _).drew)⟩
          · have tr4 := h.xread (l := 1004) (by omega) hDC.b4 (hDC.x4 x hx)
            have zr4 := h.xfz (l := 1004) x (by omega) hDC.b4
            have hIS := step_skip hnd (fun t h => ht t h) hx hH (by rw [HLE.out]; omega)
            clear q1 gf gt hG1
            go_wp2_with fail
            refine abs_world (fun W' => St W.heap.size B (setX c 1004 ((c.xc 1004).set x (.bool true))) v W' ∧ Below W.heap.size W W') ⟨(h.setX hDC.wf.hN (l := 1004) (by omega) hDC.b4 (by rw [hDC.l4]; exact hx) (.bool true)).1, hbw.trans (h.setX hDC.wf.hN (l := 1004) (by omega) hDC.b4 (by rw [hDC.l4]; exact hx) (.bool true)).2⟩ (fun W5 ⟨⟨rv5, cv5, blk5, cont5, cp5, h5⟩, hb5⟩ => ?_)
            have hDC5 := hDC.next hx
            have f2 := h5.field (i := 2) rfl
            have f4 : W5.cell? ⟨B 0, 4, none⟩ = some (.int .i64 ((n : Int) + 1)) := by rw [← hDC.unb]; exact h5.field (i := 4) rfl
            obtain ⟨q, hq⟩ : ∃ q, 4 * x = q := ⟨_, rfl⟩
            have s5 : W5.cell? ⟨sb, x, none⟩ = some (.int .i64 (q : Int)) := by rw [← hq]; exact h5.xread (l := 1003) (by omega) hDC5.b3 (hDC5.x3 x hx)
            have hqA : q < c.A := by rw [hDC.A]; omega
            have hqi : (q : Int) < (c.A : Int) := by omega
            have z5 := h5.ffz 3 (by omega) q
            have r5 := h5.roomv (a := q) hqA
            have hAeq : (setX c 1004 ((c.xc 1004).set x (.bool true))).A = c.A := rfl
            have hReq : (setX c 1004 ((c.xc 1004).set x (.bool true))).rc = c.rc := rfl
            rw [hAeq, hReq] at f2
            go_still_tail 13, (by kernel_rfl)
            go_wp2_with fail
            go_roundg (n - x - 1)
            case measure =>
              have := HG.out
              omega
            case rel =>
              have := HG.out
              exact ⟨_, _, x + 1, hh, by omega, by push_cast; rfl, rfl, ⟨_, _, _, _, _, (h5.setRoom (a := q) hqA ((n : Int) + 1)).grow (Below.refl _ _).drew⟩, hDC5, by rw [← hq]; exact hDV.next hDC hx h.l3 rfl hDV.ch hDV.sb (Int.le_refl _) (by omega), hIS, hb5.trans ((h5.hp.storeBelow (h5.bl 3 (by omega)) q (iv ((n : Int) + 1))).trans (Below.refl _ _).drew)⟩
    · have hxi : ¬ (x : Int) < (n : Int) := by omega
      obtain rfl : n = x := by omega
      go_wp2_with fail
      go_ret
      exact ⟨hh, rfl, done_h hH, hbw⟩
end Go.Proofs.Ybulkcejy
