import Derived.Test.YbulkcejyAug0
import Derived.Test.YbulkcejyAugQ
import Derived.Test.YbulkcejyBits
import Derived.WalkKit
import Derived.WalkSpells
import Derived.WalkLawsBesides
import Derived.Below
import Derived.OwnWalk
import Derived.BigQuiet
import Derived.Deep.QuietTactic
import Derived.Deep.LoopGhost
import Derived.Deep.DrawnRows
import Derived.Test.YbulkcejyDraw
import Derived.Deep.AppendLies
namespace Go.Proofs.Ybulkcejy
open Go.RowKit
set_option linter.unusedVariables false
attribute [local go_sem] Oper.semAt_some
attribute [local go_sem ↓] Go.wp_at_zero Go.wp_at_succ

set_option maxRecDepth 100000 in
set_option maxHeartbeats 8000000 in
theorem augment_calls (L : Nat) (B : Nat → Nat) (c : Net) (hc : WFc c) : ∀ (k : Nat) (v : NV) (W : World) (u : Nat) (most : Int), St L B c v W → u < c.N → sn v u = v.mark → (c.N : Int) + 1 ≤ lv v u + k → 0 < most → most ≤ 1000 → RM c v → LB c v → NB c v → CB c v → v.changed.length + 2 * k ≤ 1000000 →
    Calls Yba.prog 13 #[.pointer (some ⟨B 0, 0, none⟩), nv u, iv most] W fun e W' => ∃ sent v', e = .returned (iv sent) ∧ St L B c v' W' ∧ AugPost c v u k most sent v' ∧ Below L W W' := by
  intro k
  induction k with
  | zero =>
    intro v W u most hSt hu hsu hk hm0 hm1 hr hlb hnb hcb hcl
    have := (hlb u hu hsu).2
    omega
  | succ k ih =>
    intro v W u most hSt hu hsu hk hm0 hm1 hr hlb hnb hcb hcl
    have HIH := @ih
    clear ih
    obtain ⟨rv, cv, blk, cont, cp, h⟩ := hSt
    have hlen : Len c v := ⟨h.l3, h.l4, h.l5, h.l6⟩
    have f3 := h.field (i := 3) rfl
    have HN := hc.hN
    have hsk := hc.sk
    unfold nv iv at *
    by_cases hus : u = c.sink
    · have hus1 : ((u : Int) == (c.sink : Int)) = true := by rw [hus]; simp
      go_enter Yba.func13, Yba.ntmps13
      go_wp2_with fail
      go_ret
      exact ⟨most, v, rfl, ⟨rv, cv, blk, cont, cp, h⟩, by rw [hus]; exact AugPost.sink hlen hr hnb hcb hm0, Below.refl _ _⟩
    · have hus1 : ((u : Int) == (c.sink : Int)) = false := beq_eq_false_iff_ne.2 (by omega)
      go_enter Yba.func13, Yba.ntmps13
      go_wp2_with fail
      go_loopg [] (c.og u).length (fun g wr => ∃ (v1 : NV) (i : Nat), St L B c v1 wr ∧ Lp c v u v1 ∧ nx v1 u = i ∧ i ≤ (c.og u).length ∧ (c.og u).length ≤ i + g ∧ Below L W wr)
      case atStart =>
        obtain ⟨n0, n1⟩ := hnb u hu hus hsu
        exact ⟨v, (nx v u).toNat, ⟨rv, cv, blk, cont, cp, h⟩, Lp.start u hlen hnb, by omega, by omega, by omega, Below.refl _ _⟩
      case round =>
        obtain ⟨v1, i, ⟨rv1, cv1, blk1, cont1, cp1, h1⟩, hLp, hi, hil, hig, hbw⟩ := hrel
        have HI : Hid (nx v1 u = i) := hi
        have HG : Hid ((c.og u).length ≤ i + gk) := hig
        clear hi hig h f3
        have f0 := h1.field (i := 0) rfl
        have f1 := h1.field (i := 1) rfl
        have f2 := h1.field (i := 2) rfl
        have f5 := h1.field (i := 5) rfl
        have f6 := h1.field (i := 6) rfl
        have f7 := h1.field (i := 7) rfl
        have f9 := h1.field (i := 9) rfl
        have f10 := h1.field (i := 10) rfl
        obtain ⟨oa, ocap, hov⟩ := h1.ovform hu
        have o1 := h1.outv hu
        rw [hov] at o1
        have hx := h1.nextv hu
        have hx2 : wr.cell? ⟨B 6, u, none⟩ = some (.int .i64 (i : Int)) := by rw [← HI.out]; exact hx
        have hxf := h1.ffz 6 (by omega) u
        clear hx
        obtain ⟨mk, hmk⟩ : ∃ x, v1.mark = x := ⟨_, rfl⟩
        have HMK : Hid (v1.mark = mk) := hmk
        unfold nv iv at *
        rw [hmk] at f7
        clear hmk
        have hui : (u : Int) < (c.N : Int) := by omega
        by_cases hlt : i < (c.og u).length
        · have hlti : (i : Int) < ((c.og u).length : Int) := by omega
          obtain ⟨ab, acap, ha1, ha2, ha3⟩ := h1.arcv hu hlt
          obtain ⟨haA, hafr⟩ := hc.og u hu i hlt
          obtain ⟨a, hae⟩ : ∃ a, arc c u i = a := ⟨_, rfl⟩
          have HAE : Hid (arc c u i = a) := hae
          have ha2' : wr.cell? ⟨ab, i, none⟩ = some (.int .i64 (a : Int)) := by rw [← hae]; exact ha2
          rw [hae] at haA hafr
          rw [ha1] at hov
          cases hov
          clear hae ha1 ha2
          have htN := hc.to a haA
          have t1 := h1.tov haA
          obtain ⟨t, hte⟩ : ∃ t, tt c a = t := ⟨_, rfl⟩
          have HTE : Hid (tt c a = t) := hte
          have t1' : wr.cell? ⟨B 2, a, none⟩ = some (.int .i64 (t : Int)) := by rw [← hte]; exact t1
          rw [hte] at htN
          clear hte t1
          have r1 := h1.roomv haA
          obtain ⟨ra, hra⟩ : ∃ x, v1.room.getD a 0 = x := ⟨_, rfl⟩
          have HRA : Hid (rm v1 a = ra) := hra
          have s1 := h1.seenv htN
          obtain ⟨st, hst⟩ : ∃ x, v1.seen.getD t 0 = x := ⟨_, rfl⟩
          have HST : Hid (sn v1 t = st) := hst
          have l1 := h1.levelv htN
          obtain ⟨lt, hlvt⟩ : ∃ x, v1.level.getD t 0 = x := ⟨_, rfl⟩
          have HLT : Hid (lv v1 t = lt) := hlvt
          have l2 := h1.levelv hu
          obtain ⟨lu, hlvu⟩ : ∃ x, v1.level.getD u 0 = x := ⟨_, rfl⟩
          have HLU : Hid (lv v1 u = lu) := hlvu
          unfold nv iv at *
          rw [hra] at r1
          rw [hst] at s1
          rw [hlvt] at l1
          rw [hlvu] at l2
          clear hra hst hlvt hlvu
          have hai : (a : Int) < (c.A : Int) := by omega
          have hti : (t : Int) < (c.N : Int) := by omega
          have hlub : 0 ≤ lu ∧ lu ≤ 100 := by
            have := hlb u hu hsu
            have e : lv v1 u = lv v u := by unfold lv; rw [hLp.level]
            rw [HLU.out] at e
            omega
          obtain ⟨hlu0, hlu1⟩ := hlub
          have hi9 : (i : Int) < 10000 := by have := hc.ol u hu; omega
          go_wp2_with fail
          go_quiet (fail)
          go_wp2_with fail
          go_quiet (fail)
          go_wp2_with fail
          by_cases hr0 : ra = 0
          · have q0 : (ra == 0) = true := by rw [hr0]; rfl
            have NADM : ¬ adm c v1 u (arc c u i) := fun q => q.1 (by rw [HAE.out]; exact HRA.out.trans hr0)
            clear hr0
            go_quiet (fail)
            go_wp2_with fail
            go_roundg (gk - 1)
            case measure =>
              have := HG.out
              omega
            case rel =>
              have := HG.out
              exact ⟨_, i + 1, ⟨rv1, cv1, blk1, _, cp1, (h1.drewN _).setNext hu ((i : Int) + 1)⟩, hLp.inc hu hus hsu HI.out hlt (fun _ => .inl NADM) (fun q => NADM q.2), nx_set h1.l6 hu _, by omega, by omega, hbw.trans (((Below_drewN (Below.refl _ _) _)).trans ((h1.drewN _).hp.storeBelow (h1.bl 6 (by omega)) u _))⟩
          · have q0 : (ra == 0) = false := beq_eq_false_iff_ne.2 hr0
            by_cases hs0 : st = mk
            · have q1 : (st == mk) = true := by rw [hs0]; exact beq_self_eq_true _
              by_cases hl0 : lt = lu + 1
              · have q2 : (lt == lu + 1) = true := by rw [hl0]; exact beq_self_eq_true _
                subst hs0
                subst hl0
                have el : ∀ w, lv v1 w = lv v w := fun w => by unfold lv; rw [hLp.level]
                have es : ∀ w, sn v1 w = sn v w := fun w => by unfold sn; rw [hLp.seen]
                have er : ∀ b, rm v1 b = rm v b := fun b => by unfold rm; rw [hLp.room]
                have hlt1 : lv v t = lv v u + 1 := by rw [← el, ← el, HLT.out, HLU.out]
                have hst1 : sn v1 t = v1.mark := HST.out.trans HMK.out.symm
                have hR1 : RM c v1 := fun b hb => by rw [er, er]; exact hr b hb
                have hL1 : LB c v1 := fun w hw hsw => by rw [el]; exact hlb w hw (by rw [← es, hsw, hLp.mark])
                have hC1 : CB c v1 := fun p hp => hcb p (by rw [← hLp.changed]; exact hp)
                have hcl1 : v1.changed.length + 2 * k ≤ 1000000 := by rw [hLp.changed]; omega
                have hk1 : (c.N : Int) + 1 ≤ lv v1 t + k := by rw [el, hlt1]; omega
                have hra0 : 0 < ra := by
                  have := (hR1 a haA).1
                  rw [HRA.out] at this
                  omega
                obtain ⟨m, hm⟩ : ∃ m, m = min most ra := ⟨_, rfl⟩
                have hmb : 0 < m ∧ m ≤ 1000 := by omega
                have HM : Hid (m = min most (rm v1 a)) := by
                  show m = min most (rm v1 a)
                  rw [HRA.out]
                  exact hm
                have KEY : ∀ n, Calls Yba.prog 13 #[.pointer (some ⟨B 0, 0, none⟩), .int .i64 (t : Int), .int .i64 m] (wr.drewN n) fun e W' => ∃ sent v', e = .returned (.int .i64 sent) ∧ St L B c v' W' ∧ AugPost c v1 t k m sent v' ∧ Below L (wr.drewN n) W' := fun n =>
                  HIH v1 (wr.drewN n) t m ⟨rv1, cv1, blk1, cont1, cp1, h1.drewN n⟩ htN hst1 hk1 hmb.1 hmb.2 hR1 hL1 hLp.nb hC1 hcl1
                have HEL : Hid (∀ w, lv v1 w = lv v w) := el
                clear el es er hR1 hL1 hC1 hcl1 hk1 hst1 HIH
                by_cases hmn : most ≤ ra
                · obtain rfl : m = most := by omega
                  clear hm hmb
                  have hPs : ∀ {sent : Int} {v2 : NV}, AugPost c v1 t k m sent v2 → nx v2 u = i := fun hP => by
                    rw [hP.nf u hu (fun q => by have := q.2; rw [HEL.out, HEL.out] at this; omega)]
                    exact HI.out
                  go_quiet (fail)
                  go_wp2_with (go_at_call 13; refine (KEY _).mono ?_; rintro e W3 ⟨sent, v2, rfl, ⟨rv2, cv2, blk2, cont2, cp2, h2⟩, hP, hb3⟩; have ff9 := h2.field (i := 9) rfl; have ff2 := h2.field (i := 2) rfl; have ff10 := h2.field (i := 10) rfl; have hx3 : W3.cell? ⟨B 6, u, none⟩ = some (.int .i64 (i : Int)) := (by rw [← hPs hP]; exact h2.nextv hu); have hxf3 := h2.ffz 6 (by omega) u)
                  · have hb4 : Below L wr W3 := (Below_drewN (Below.refl _ _) _).trans hb3
                    clear KEY hb3
                    obtain ⟨i57, hi57, hz57, hs57, hb57⟩ := info_parts Yba.info57
                    have hxor := bits_xor1 a (by have := hc.hA; omega)
                    have hpA := pt_lt haA hc.ev
                    have hrA := h2.roomv haA
                    have hrP := h2.roomv hpA
                    obtain ⟨ra2, hra2⟩ : ∃ x, rm v2 a = x := ⟨_, rfl⟩
                    obtain ⟨rp2, hrp2⟩ : ∃ x, rm v2 (pt a) = x := ⟨_, rfl⟩
                    have HRA2 : Hid (rm v2 a = ra2) := hra2
                    have HRP2 : Hid (rm v2 (pt a) = rp2) := hrp2
                    have hrA' : W3.cell? ⟨B 3, a, none⟩ = some (.int .i64 ra2) := by rw [← hra2]; exact hrA
                    have hrP' : W3.cell? ⟨B 3, pt a, none⟩ = some (.int .i64 rp2) := by rw [← hrp2]; exact hrP
                    clear hrA hrP hra2 hrp2
                    obtain ⟨p, hpe⟩ : ∃ p, pt a = p := ⟨_, rfl⟩
                    have HPE : Hid (pt a = p) := hpe
                    rw [hpe] at hrP' hxor hpA
                    have HFR : Hid (tt c (pt a) = u) := hafr
                    clear hpe hafr
                    have hpi : (p : Int) < (c.A : Int) := by omega
                    have n03 : B 0 ≠ B 3 := fun e => by have := h2.hp.inj 0 3 (B 0) (h2.bl 0 (by omega)) (by rw [e]; exact h2.bl 3 (by omega)); omega
                    have n30 : B 3 ≠ B 0 := Ne.symm n03
                    have b0 := h2.hp.lt (h2.bl 0 (by omega))
                    have b3 := h2.hp.lt (h2.bl 3 (by omega))
                    have b0' := b0.2
                    have b3' := b3.2
                    have hfz0 := h2.ffz 0 (by omega) 10
                    have ne0 := h2.cvne (l := 0) (by omega)
                    have ne3 := h2.cvne (l := 3) (by omega)
                    have hcl2 : v2.changed.length ≤ 1000000 := by have := hP.cl; rw [hLp.changed] at this; omega
                    refine wp_draw 25 4 (by kernel_rfl) (by kernel_rfl) (fun w' => w'.cell? ⟨B 0, 10, none⟩ = some cv2 ∧ w'.cell? ⟨B 0, 2, none⟩ = some (.slice (some ⟨B 3, 0, none⟩) c.A c.rc) ∧ w'.cell? ⟨B 3, a, none⟩ = some (.int .i64 ra2) ∧ w'.cell? ⟨B 3, p, none⟩ = some (.int .i64 rp2)) (by go_simp) (fun ops => ?_)
                    simp only [List.take_succ_cons, List.take_zero, List.drop_succ_cons, List.drop_zero, Nat.reduceAdd]
                    repeat (refine wpHeld_step ?_ (by rfl) ?_ ?_; rotate_left; focus (intro w hSw; (try dsimp only at hSw); go_simp; (try with_reducible rfl); done); try simp only [Act.put, List.setIfInBounds_toArray, List.set_cons_zero, List.set_cons_succ])
                    refine wpHeld_nil ?_
                    refine wpMid_step (by rfl) (fun K hK => ?_)
                    go_simp
                    refine hK.out _ _ (by go_simp) (fun hHeld => ?_)
                    clear hK K
                    refine wpMid_step (by rfl) (fun K hK => ?_)
                    refine wp_append_lies _ _ _ 47 (by rfl) L 57 i57 (.agg #[.int .i64 0, .int .i64 0]) 2 16 Yba.underlying47 hi57 hz57 hs57 hb57 rfl (by omega) cv2 v2.changed.length (flat v2.changed) (by rfl) (ownsRow_below h2.ownsC (Below.drew (Below.alloc (Below.refl _ _) (by simp) _))) ⟨W3.heap.size, 0, none⟩ 2 2 [.int .i64 (a : Int), .int .i64 ra2, .int .i64 (p : Int), .int .i64 rp2] (by rfl) (by rfl) (cells_new4 rfl _ _ _ _ _) (by simp [Value.oneCell']) (by omega) (by unfold maxLen; omega) (by omega) (by have := h2.LW; simp; omega) _ rfl (fun g cap w1 hown hgrow hat hlt9 => ?_)
                    have g0 : w1.cell? ⟨B 0, 10, none⟩ = some cv2 := hgrow.cell (by go_simp) ne0
                    have g1 : w1.cell? ⟨B 0, 2, none⟩ = some (.slice (some ⟨B 3, 0, none⟩) c.A c.rc) := hgrow.cell (by go_simp) ne0
                    have g2 : w1.cell? ⟨B 3, a, none⟩ = some (.int .i64 ra2) := hgrow.cell (by go_simp) ne3
                    have g3 : w1.cell? ⟨B 3, p, none⟩ = some (.int .i64 rp2) := hgrow.cell (by go_simp) ne3
                    have g4 : w1.frozen? ⟨B 0, 10, none⟩ = false := (World.frozen?_of_block (a := ⟨B 0, 10, none⟩) (hgrow.block (B 0) (by simp; omega) ne0)).trans (by go_simp)
                    refine hK.out _ _ ⟨g0, g1, g2, g3⟩ (fun hHeld => ?_)
                    clear hK K
                    simp only [Act.put, List.setIfInBounds_toArray, List.set_cons_zero, List.set_cons_succ]
                    refine wpMid_step (by rfl) (fun K hK => ?_)
                    go_simp
                    refine hK.out _ _ ⟨g0, g1, g2, g3⟩ (fun hHeld => ?_)
                    clear hK K
                    refine wpMid_step (by rfl) (fun K hK => ?_)
                    go_simp
                    refine hK.out _ _ ⟨g0, g1, g2, g3⟩ (fun hHeld => ?_)
                    clear hK K
                    refine wpMid_nil ?_
                    go_wp2_with fail
                    refine NoPanic.normal ?_
                    have hBa : Below W3.heap.size W3 ((W3.alloc (Obj.cells #[.int .i64 (a : Int), .int .i64 ra2, .int .i64 (p : Int), .int .i64 rp2] 57)).drew) := Below.drew (Below.alloc (Below.refl _ _) (by simp) _)
                    obtain ⟨⟨blk3, cont3, cp3, h3⟩, hb5⟩ := (h2.grow hBa).pushC (news := [(a, ra2), (p, rp2)]) (by simp) hown hgrow (hat.elim (fun q => .inl q.symm) (fun q => .inr (by rw [q]; rfl)))
                    have hb6 : Below L W3 _ := (hBa.mono h2.LW).trans hb5
                    generalize hW5 : w1.setCell ⟨B 0, 10, none⟩ (Value.slice (some ⟨g, 0, none⟩) (v2.changed.length + 2) cap) = W5
                    have h3' : NF L W5 B c { v2 with changed := v2.changed ++ [(a, ra2), (p, rp2)] } rv2 (Value.slice (some ⟨g, 0, none⟩) (v2.changed.length + 2) cap) blk3 cont3 cp3 := by rw [← hW5]; exact h3
                    have hb7 : Below L W3 W5 := by rw [← hW5]; exact hb6
                    clear hBa h3 hb5 hb6 hW5 hown hgrow hat hlt9 g0 g1 g2 g3 g4 hHeld hrA' hrP' ff9 ff2 ff10 hx3 hxf3 hfz0 ne0 ne3 b0 b3 b0' b3'
                    have ff2 := h3'.field (i := 2) rfl
                    have hrA' : W5.cell? ⟨B 3, a, none⟩ = some (.int .i64 ra2) := by rw [← HRA2.out]; exact h3'.roomv haA
                    have hrP' : W5.cell? ⟨B 3, p, none⟩ = some (.int .i64 rp2) := by rw [← HRP2.out, HPE.out]; exact h3'.roomv hpA
                    have hz3a := h3'.ffz 3 (by omega) a
                    have hz3p := h3'.ffz 3 (by omega) p
                    have hpa : p ≠ a := by rw [← HPE.out]; exact pt_ne a
                    have hpaI : a ≠ p := Ne.symm hpa
                    have hbnd : 0 ≤ ra2 ∧ ra2 ≤ 1000 ∧ 0 ≤ rp2 ∧ rp2 ≤ 1000 ∧ 0 ≤ sent ∧ sent ≤ 1000 := by
                      have q1 := hP.rmn a haA
                      have q2 := hP.rmn p hpA
                      have q3 := hP.s0
                      rw [HRA2.out, HPE.out, ← HPE.out, HRP2.out] at q1
                      rw [← HPE.out, HRP2.out, pt_pt, HRA2.out] at q2
                      omega
                    go_wp2_with fail
                    go_ret
                    have e5 : sentV v2 a sent = { v2 with changed := v2.changed ++ [(a, ra2), (p, rp2)], room := (v2.room.set a (ra2 - sent)).set p (rp2 + sent) } := by
                      unfold sentV
                      rw [HRA2.out, HRP2.out, HPE.out]
                    have h5 : St L B c (sentV v2 a sent) ((W5.setCell ⟨B 3, a, none⟩ (.int .i64 (ra2 - sent))).setCell ⟨B 3, p, none⟩ (.int .i64 (rp2 + sent))) := by
                      rw [e5]
                      exact ⟨_, _, _, _, _, (h3'.setRoom haA (ra2 - sent)).setRoom hpA (rp2 + sent)⟩
                    exact ⟨sent, sentV v2 a sent, rfl, h5, AugPost.sent hc hLp haA HFR.out HTE.out hlt1 hsu (by rw [← HM.out]; exact hP) (by omega), hbw.trans (hb4.trans (hb7.trans ((h3'.hp.storeBelow (h3'.bl 3 (by omega)) a _).trans ((h3'.setRoom haA (ra2 - sent)).hp.storeBelow (h3'.bl 3 (by omega)) p _))))⟩
                  · have hb4 : Below L wr W3 := (Below_drewN (Below.refl _ _) _).trans hb3
                    clear KEY hb3
                    obtain rfl : sent = 0 := by have := hP.s0.1; omega
                    have hLp2 := hLp.call hlt1 hP
                    go_roundg (gk - 1)
                    case measure =>
                      have := HG.out
                      omega
                    case rel =>
                      have := HG.out
                      refine ⟨_, i + 1, ⟨rv2, cv2, blk2, _, cp2, h2.setNext hu ((i : Int) + 1)⟩, hLp2.inc hu hus hsu (hPs hP) hlt (fun hE => ?_) (fun q => ?_), nx_set h2.l6 hu _, by omega, by omega, hbw.trans (hb4.trans (h2.hp.storeBelow (h2.bl 6 (by omega)) u _))⟩
                      · obtain ⟨_, q1, q2⟩ := hP.dfs (hLp.ee hE) rfl
                        refine .inr ?_
                        rw [HAE.out, HTE.out]
                        exact ⟨q1, fun e => by rw [e] at hlt1; omega, q2⟩
                      · have q1 := q.1
                        rw [HAE.out, HTE.out] at q1
                        rw [q1] at hlt1
                        omega
                · obtain rfl : m = ra := by omega
                  clear hm hmb
                  have hPs : ∀ {sent : Int} {v2 : NV}, AugPost c v1 t k m sent v2 → nx v2 u = i := fun hP => by
                    rw [hP.nf u hu (fun q => by have := q.2; rw [HEL.out, HEL.out] at this; omega)]
                    exact HI.out
                  go_quiet (fail)
                  go_wp2_with (go_at_call 13; refine (KEY _).mono ?_; rintro e W3 ⟨sent, v2, rfl, ⟨rv2, cv2, blk2, cont2, cp2, h2⟩, hP, hb3⟩; have ff9 := h2.field (i := 9) rfl; have ff2 := h2.field (i := 2) rfl; have ff10 := h2.field (i := 10) rfl; have hx3 : W3.cell? ⟨B 6, u, none⟩ = some (.int .i64 (i : Int)) := (by rw [← hPs hP]; exact h2.nextv hu); have hxf3 := h2.ffz 6 (by omega) u)
                  · have hb4 : Below L wr W3 := (Below_drewN (Below.refl _ _) _).trans hb3
                    clear KEY hb3
                    obtain ⟨i57, hi57, hz57, hs57, hb57⟩ := info_parts Yba.info57
                    have hxor := bits_xor1 a (by have := hc.hA; omega)
                    have hpA := pt_lt haA hc.ev
                    have hrA := h2.roomv haA
                    have hrP := h2.roomv hpA
                    obtain ⟨ra2, hra2⟩ : ∃ x, rm v2 a = x := ⟨_, rfl⟩
                    obtain ⟨rp2, hrp2⟩ : ∃ x, rm v2 (pt a) = x := ⟨_, rfl⟩
                    have HRA2 : Hid (rm v2 a = ra2) := hra2
                    have HRP2 : Hid (rm v2 (pt a) = rp2) := hrp2
                    have hrA' : W3.cell? ⟨B 3, a, none⟩ = some (.int .i64 ra2) := by rw [← hra2]; exact hrA
                    have hrP' : W3.cell? ⟨B 3, pt a, none⟩ = some (.int .i64 rp2) := by rw [← hrp2]; exact hrP
                    clear hrA hrP hra2 hrp2
                    obtain ⟨p, hpe⟩ : ∃ p, pt a = p := ⟨_, rfl⟩
                    have HPE : Hid (pt a = p) := hpe
                    rw [hpe] at hrP' hxor hpA
                    have HFR : Hid (tt c (pt a) = u) := hafr
                    clear hpe hafr
                    have hpi : (p : Int) < (c.A : Int) := by omega
                    have n03 : B 0 ≠ B 3 := fun e => by have := h2.hp.inj 0 3 (B 0) (h2.bl 0 (by omega)) (by rw [e]; exact h2.bl 3 (by omega)); omega
                    have n30 : B 3 ≠ B 0 := Ne.symm n03
                    have b0 := h2.hp.lt (h2.bl 0 (by omega))
                    have b3 := h2.hp.lt (h2.bl 3 (by omega))
                    have b0' := b0.2
                    have b3' := b3.2
                    have hfz0 := h2.ffz 0 (by omega) 10
                    have ne0 := h2.cvne (l := 0) (by omega)
                    have ne3 := h2.cvne (l := 3) (by omega)
                    have hcl2 : v2.changed.length ≤ 1000000 := by have := hP.cl; rw [hLp.changed] at this; omega
                    refine wp_draw 25 4 (by kernel_rfl) (by kernel_rfl) (fun w' => w'.cell? ⟨B 0, 10, none⟩ = some cv2 ∧ w'.cell? ⟨B 0, 2, none⟩ = some (.slice (some ⟨B 3, 0, none⟩) c.A c.rc) ∧ w'.cell? ⟨B 3, a, none⟩ = some (.int .i64 ra2) ∧ w'.cell? ⟨B 3, p, none⟩ = some (.int .i64 rp2)) (by go_simp) (fun ops => ?_)
                    simp only [List.take_succ_cons, List.take_zero, List.drop_succ_cons, List.drop_zero, Nat.reduceAdd]
                    repeat (refine wpHeld_step ?_ (by rfl) ?_ ?_; rotate_left; focus (intro w hSw; (try dsimp only at hSw); go_simp; (try with_reducible rfl); done); try simp only [Act.put, List.setIfInBounds_toArray, List.set_cons_zero, List.set_cons_succ])
                    refine wpHeld_nil ?_
                    refine wpMid_step (by rfl) (fun K hK => ?_)
                    go_simp
                    refine hK.out _ _ (by go_simp) (fun hHeld => ?_)
                    clear hK K
                    refine wpMid_step (by rfl) (fun K hK => ?_)
                    refine wp_append_lies _ _ _ 47 (by rfl) L 57 i57 (.agg #[.int .i64 0, .int .i64 0]) 2 16 Yba.underlying47 hi57 hz57 hs57 hb57 rfl (by omega) cv2 v2.changed.length (flat v2.changed) (by rfl) (ownsRow_below h2.ownsC (Below.drew (Below.alloc (Below.refl _ _) (by simp) _))) ⟨W3.heap.size, 0, none⟩ 2 2 [.int .i64 (a : Int), .int .i64 ra2, .int .i64 (p : Int), .int .i64 rp2] (by rfl) (by rfl) (cells_new4 rfl _ _ _ _ _) (by simp [Value.oneCell']) (by omega) (by unfold maxLen; omega) (by omega) (by have := h2.LW; simp; omega) _ rfl (fun g cap w1 hown hgrow hat hlt9 => ?_)
                    have g0 : w1.cell? ⟨B 0, 10, none⟩ = some cv2 := hgrow.cell (by go_simp) ne0
                    have g1 : w1.cell? ⟨B 0, 2, none⟩ = some (.slice (some ⟨B 3, 0, none⟩) c.A c.rc) := hgrow.cell (by go_simp) ne0
                    have g2 : w1.cell? ⟨B 3, a, none⟩ = some (.int .i64 ra2) := hgrow.cell (by go_simp) ne3
                    have g3 : w1.cell? ⟨B 3, p, none⟩ = some (.int .i64 rp2) := hgrow.cell (by go_simp) ne3
                    have g4 : w1.frozen? ⟨B 0, 10, none⟩ = false := (World.frozen?_of_block (a := ⟨B 0, 10, none⟩) (hgrow.block (B 0) (by simp; omega) ne0)).trans (by go_simp)
                    refine hK.out _ _ ⟨g0, g1, g2, g3⟩ (fun hHeld => ?_)
                    clear hK K
                    simp only [Act.put, List.setIfInBounds_toArray, List.set_cons_zero, List.set_cons_succ]
                    refine wpMid_step (by rfl) (fun K hK => ?_)
                    go_simp
                    refine hK.out _ _ ⟨g0, g1, g2, g3⟩ (fun hHeld => ?_)
                    clear hK K
                    refine wpMid_step (by rfl) (fun K hK => ?_)
                    go_simp
                    refine hK.out _ _ ⟨g0, g1, g2, g3⟩ (fun hHeld => ?_)
                    clear hK K
                    refine wpMid_nil ?_
                    go_wp2_with fail
                    refine NoPanic.normal ?_
                    have hBa : Below W3.heap.size W3 ((W3.alloc (Obj.cells #[.int .i64 (a : Int), .int .i64 ra2, .int .i64 (p : Int), .int .i64 rp2] 57)).drew) := Below.drew (Below.alloc (Below.refl _ _) (by simp) _)
                    obtain ⟨⟨blk3, cont3, cp3, h3⟩, hb5⟩ := (h2.grow hBa).pushC (news := [(a, ra2), (p, rp2)]) (by simp) hown hgrow (hat.elim (fun q => .inl q.symm) (fun q => .inr (by rw [q]; rfl)))
                    have hb6 : Below L W3 _ := (hBa.mono h2.LW).trans hb5
                    generalize hW5 : w1.setCell ⟨B 0, 10, none⟩ (Value.slice (some ⟨g, 0, none⟩) (v2.changed.length + 2) cap) = W5
                    have h3' : NF L W5 B c { v2 with changed := v2.changed ++ [(a, ra2), (p, rp2)] } rv2 (Value.slice (some ⟨g, 0, none⟩) (v2.changed.length + 2) cap) blk3 cont3 cp3 := by rw [← hW5]; exact h3
                    have hb7 : Below L W3 W5 := by rw [← hW5]; exact hb6
                    clear hBa h3 hb5 hb6 hW5 hown hgrow hat hlt9 g0 g1 g2 g3 g4 hHeld hrA' hrP' ff9 ff2 ff10 hx3 hxf3 hfz0 ne0 ne3 b0 b3 b0' b3'
                    have ff2 := h3'.field (i := 2) rfl
                    have hrA' : W5.cell? ⟨B 3, a, none⟩ = some (.int .i64 ra2) := by rw [← HRA2.out]; exact h3'.roomv haA
                    have hrP' : W5.cell? ⟨B 3, p, none⟩ = some (.int .i64 rp2) := by rw [← HRP2.out, HPE.out]; exact h3'.roomv hpA
                    have hz3a := h3'.ffz 3 (by omega) a
                    have hz3p := h3'.ffz 3 (by omega) p
                    have hpa : p ≠ a := by rw [← HPE.out]; exact pt_ne a
                    have hpaI : a ≠ p := Ne.symm hpa
                    have hbnd : 0 ≤ ra2 ∧ ra2 ≤ 1000 ∧ 0 ≤ rp2 ∧ rp2 ≤ 1000 ∧ 0 ≤ sent ∧ sent ≤ 1000 := by
                      have q1 := hP.rmn a haA
                      have q2 := hP.rmn p hpA
                      have q3 := hP.s0
                      rw [HRA2.out, HPE.out, ← HPE.out, HRP2.out] at q1
                      rw [← HPE.out, HRP2.out, pt_pt, HRA2.out] at q2
                      omega
                    go_wp2_with fail
                    go_ret
                    have e5 : sentV v2 a sent = { v2 with changed := v2.changed ++ [(a, ra2), (p, rp2)], room := (v2.room.set a (ra2 - sent)).set p (rp2 + sent) } := by
                      unfold sentV
                      rw [HRA2.out, HRP2.out, HPE.out]
                    have h5 : St L B c (sentV v2 a sent) ((W5.setCell ⟨B 3, a, none⟩ (.int .i64 (ra2 - sent))).setCell ⟨B 3, p, none⟩ (.int .i64 (rp2 + sent))) := by
                      rw [e5]
                      exact ⟨_, _, _, _, _, (h3'.setRoom haA (ra2 - sent)).setRoom hpA (rp2 + sent)⟩
                    exact ⟨sent, sentV v2 a sent, rfl, h5, AugPost.sent hc hLp haA HFR.out HTE.out hlt1 hsu (by rw [← HM.out]; exact hP) (by omega), hbw.trans (hb4.trans (hb7.trans ((h3'.hp.storeBelow (h3'.bl 3 (by omega)) a _).trans ((h3'.setRoom haA (ra2 - sent)).hp.storeBelow (h3'.bl 3 (by omega)) p _))))⟩
                  · have hb4 : Below L wr W3 := (Below_drewN (Below.refl _ _) _).trans hb3
                    clear KEY hb3
                    obtain rfl : sent = 0 := by have := hP.s0.1; omega
                    have hLp2 := hLp.call hlt1 hP
                    go_roundg (gk - 1)
                    case measure =>
                      have := HG.out
                      omega
                    case rel =>
                      have := HG.out
                      refine ⟨_, i + 1, ⟨rv2, cv2, blk2, _, cp2, h2.setNext hu ((i : Int) + 1)⟩, hLp2.inc hu hus hsu (hPs hP) hlt (fun hE => ?_) (fun q => ?_), nx_set h2.l6 hu _, by omega, by omega, hbw.trans (hb4.trans (h2.hp.storeBelow (h2.bl 6 (by omega)) u _))⟩
                      · obtain ⟨_, q1, q2⟩ := hP.dfs (hLp.ee hE) rfl
                        refine .inr ?_
                        rw [HAE.out, HTE.out]
                        exact ⟨q1, fun e => by rw [e] at hlt1; omega, q2⟩
                      · have q1 := q.1
                        rw [HAE.out, HTE.out] at q1
                        rw [q1] at hlt1
                        omega
              · have q2 : (lt == lu + 1) = false := beq_eq_false_iff_ne.2 hl0
                have NADM : ¬ adm c v1 u (arc c u i) := fun q => hl0 (by have := q.2.2; rw [HAE.out, HTE.out, HLT.out, HLU.out] at this; exact this)
                subst hs0
                go_quiet (fail)
                go_wp2_with fail
                go_roundg (gk - 1)
                case measure =>
                  have := HG.out
                  omega
                case rel =>
                  have := HG.out
                  exact ⟨_, i + 1, ⟨rv1, cv1, blk1, _, cp1, (h1.drewN _).setNext hu ((i : Int) + 1)⟩, hLp.inc hu hus hsu HI.out hlt (fun _ => .inl NADM) (fun q => NADM q.2), nx_set h1.l6 hu _, by omega, by omega, hbw.trans (((Below_drewN (Below.refl _ _) _)).trans ((h1.drewN _).hp.storeBelow (h1.bl 6 (by omega)) u _))⟩
            · have q1 : (st == mk) = false := beq_eq_false_iff_ne.2 hs0
              have NADM : ¬ adm c v1 u (arc c u i) := fun q => hs0 (by have := q.2.1; rw [HAE.out, HTE.out, HST.out, HMK.out] at this; exact this)
              go_quiet (fail)
              go_wp2_with fail
              go_roundg (gk - 1)
              case measure =>
                have := HG.out
                omega
              case rel =>
                have := HG.out
                exact ⟨_, i + 1, ⟨rv1, cv1, blk1, _, cp1, (h1.drewN _).setNext hu ((i : Int) + 1)⟩, hLp.inc hu hus hsu HI.out hlt (fun _ => .inl NADM) (fun q => NADM q.2), nx_set h1.l6 hu _, by omega, by omega, hbw.trans (((Below_drewN (Below.refl _ _) _)).trans ((h1.drewN _).hp.storeBelow (h1.bl 6 (by omega)) u _))⟩
        · have hnlt : ¬ (i : Int) < ((c.og u).length : Int) := by omega
          go_wp2_with fail
          go_quiet (fail)
          go_wp2_with fail
          go_ret
          exact ⟨0, v1, rfl, ⟨rv1, cv1, blk1, cont1, cp1, h1.drewN _⟩, hLp.fail hus hm0 hr hcb (by have := HI.out; omega), hbw.trans (Below_drewN (Below.refl _ _) _)⟩
end Go.Proofs.Ybulkcejy
