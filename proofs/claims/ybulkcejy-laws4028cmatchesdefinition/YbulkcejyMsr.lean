import Derived.Test.YbulkcejyAug0
import Derived.Test.YbulkcejyMeas
import Derived.StillTailTactics
namespace Go.Proofs.Ybulkcejy
open Go.RowKit
set_option linter.unusedVariables false
attribute [local go_sem] Oper.semAt_some
attribute [local go_sem ↓] Go.wp_at_zero Go.wp_at_succ

theorem Yba.info3 : (Yba.prog.info? 3).map (fun i => (i.zero, i.size, i.bytes)) = some (some (.int .i64 0), 1, 8) := by kernel_rfl
theorem cells_new1 {W : World} {n : Nat} (h : W.heap.size = n) (v0 : Value) (t : TypeId) : ∀ j u, [v0][j]? = some u → (W.alloc (.cells #[v0] t)).cell? ((⟨n, 0, none⟩ : Addr).add j) = some u := by
  subst h
  intro j u hu
  rcases j with _ | j
  · cases hu; rw [show (⟨W.heap.size, 0, none⟩ : Addr).add 0 = ⟨W.heap.size, 0, none⟩ from rfl]; go_simp
  · cases hu

theorem NF.rvne {L : Nat} {W : World} {B : Nat → Nat} {c : Net} {v : NV} {rv cv : Value} {blk : Nat → Option Nat} {cont : Nat → List Value} {cp : Nat → Nat} (h : NF L W B c v rv cv blk cont cp) {l : Nat} (hl : l ≤ 6) : some (B l) ≠ rv.ownBlock := by
  rcases h.s7.2 with ⟨e, _, _⟩ | ⟨b, cap, e, hb, _⟩
  · rw [e]
    intro q
    cases q
  · rw [e]
    intro q
    have q2 : B l = b := Option.some.inj q
    have := h.hp.inj l 7 (B l) (h.bl l hl) (by rw [q2]; exact hb)
    omega
theorem NF.reachv {L : Nat} {W : World} {B : Nat → Nat} {c : Net} {v : NV} {rv cv : Value} {blk : Nat → Option Nat} {cont : Nat → List Value} {cp : Nat → Nat} (h : NF L W B c v rv cv blk cont cp) {i : Nat} (hi : i < v.reached.length) : ∃ b cap, rv = .slice (some ⟨b, 0, none⟩) v.reached.length cap ∧ W.cell? ⟨b, i, none⟩ = some (nv (rd v i)) := by
  rcases h.s7.2 with ⟨_, h0, _⟩ | ⟨b, cap, h1, h2, _⟩
  · omega
  · exact ⟨b, cap, h1, h.hp.read h2 (by rw [h.k7]; exact getD_map_nv hi)⟩
theorem NF.rvne0 {L : Nat} {W : World} {B : Nat → Nat} {c : Net} {v : NV} {rv cv : Value} {blk : Nat → Option Nat} {cont : Nat → List Value} {cp : Nat → Nat} (h : NF L W B c v rv cv blk cont cp) {l : Nat} (hl : l ≤ 6) : some (B l) ≠ (cut0 rv).ownBlock := by
  have h0 := h.rvne hl
  rcases h.s7.2 with ⟨e, _, _⟩ | ⟨b, cap, e, hb, _⟩
  · rw [e]
    intro q
    cases q
  · rw [e] at h0 ⊢
    exact h0
theorem NF.rvform {L : Nat} {W : World} {B : Nat → Nat} {c : Net} {v : NV} {rv cv : Value} {blk : Nat → Option Nat} {cont : Nat → List Value} {cp : Nat → Nat} (h : NF L W B c v rv cv blk cont cp) : ∃ ra rc, rv = .slice ra v.reached.length rc := by
  rcases h.s7.2 with ⟨e, e2, _⟩ | ⟨b, cap, e, hb, _⟩
  · exact ⟨none, 0, by rw [e, e2]⟩
  · exact ⟨_, _, e⟩
def N5 (L : Nat) (B : Nat → Nat) (c : Net) (v : NV) (rv cv : Value) (W : World) : Prop := ∃ blk cont cp, NF L W B c v rv cv blk cont cp
def MeasOut (L : Nat) (B : Nat → Nat) (c : Net) (v : NV) (x : Nat) (W : World) (e : Ending) (W' : World) : Prop := ∃ b v', e = .returned (.bool b) ∧ St L B c v' W' ∧ MPost c v x b v' ∧ Below L W W'
set_option maxRecDepth 100000 in
set_option maxHeartbeats 8000000 in
theorem measure_calls (L : Nat) (B : Nat → Nat) (c : Net) (hc : WFc c) (v : NV) (W : World) (x : Nat) (hSt : St L B c v W) (hx : x < c.N) (hxs : x ≠ c.sink) (hsb : ∀ w, w < c.N → sn v w ≤ v.mark) (hmk0 : 0 ≤ v.mark) (hmk1 : v.mark ≤ 1000000) :
    Calls Yba.prog 12 #[.pointer (some ⟨B 0, 0, none⟩), nv x] W (MeasOut L B c v x W) := by
  obtain ⟨rv, cv, blk, cont, cp, h⟩ := hSt
  have hlen : Len c v := ⟨h.l3, h.l4, h.l5, h.l6⟩
  have HN := hc.hN
  have hsk := hc.sk
  have NE : ∀ {i j : Nat}, i ≤ 6 → j ≤ 6 → i ≠ j → B i ≠ B j := fun hi hj hij e => hij (h.hp.inj _ _ _ (h.bl _ hi) (by rw [e]; exact h.bl _ hj))
  have HMS := MI.start hlen hx hxs hsb
  have f5 := h.field (i := 5) rfl
  have f6 := h.field (i := 6) rfl
  have f7 := h.field (i := 7) rfl
  have f8 := h.field (i := 8) rfl
  have z0 := h.ffz 0 (by omega) 7
  have z08 := h.ffz 0 (by omega) 8
  have z5 := h.ffz 5 (by omega) x
  have z4 := h.ffz 4 (by omega) x
  have xs := h.seenv hx
  have xl := h.levelv hx
  obtain ⟨i3, hi3, hz3, hs3, hb3⟩ := info_parts Yba.info3
  unfold nv iv at *
  have hxi : (x : Int) < (c.N : Int) := by omega
  obtain ⟨ra, rc, hrv⟩ := h.rvform
  subst hrv
  go_enter Yba.func12, Yba.ntmps12
  go_wp2_with fail
  refine abs_world (fun W' => N5 L B c { v with mark := v.mark + 1 } _ cv W' ∧ Below L W W') ⟨⟨_, _, _, h.setMark (v.mark + 1)⟩, h.hp.storeBelow (h.bl 0 (by omega)) 7 _⟩ (fun W1 ⟨⟨blk1, cont1, cp1, h1⟩, hb1⟩ => ?_)
  clear f5 f6 f7 f8 z0 z08 z5 z4 xs xl
  have f5 := h1.field (i := 5) rfl
  have f6 := h1.field (i := 6) rfl
  have f7 := h1.field (i := 7) rfl
  have f8 := h1.field (i := 8) rfl
  have z5 := h1.ffz 5 (by omega) x
  have z4 := h1.ffz 4 (by omega) x
  have z0 := h1.ffz 0 (by omega) 8
  have xs := h1.seenv hx
  have xl := h1.levelv hx
  have n50 : B 5 ≠ B 0 := NE (by omega) (by omega) (by omega)
  have n05 : B 0 ≠ B 5 := NE (by omega) (by omega) (by omega)
  have n40 : B 4 ≠ B 0 := NE (by omega) (by omega) (by omega)
  have n04 : B 0 ≠ B 4 := NE (by omega) (by omega) (by omega)
  have n45 : B 4 ≠ B 5 := NE (by omega) (by omega) (by omega)
  have n54 : B 5 ≠ B 4 := NE (by omega) (by omega) (by omega)
  have h2 := (h1.setSeen hx (v.mark + 1)).setLevel hx 0
  have hO := h2.ownsR0
  have hb2 := (h1.hp.storeBelow (h1.bl 5 (by omega)) x (iv (v.mark + 1))).trans ((h1.setSeen hx (v.mark + 1)).hp.storeBelow (h1.bl 4 (by omega)) x (iv 0))
  have ne0 : some (B 0) ≠ (Value.slice ra 0 rc).ownBlock := h2.rvne0 (l := 0) (by omega)
  have b0 := (h1.hp.lt (h1.bl 0 (by omega))).2
  ((try unfold nv at *); (try unfold iv at *))
  go_still_tail 10, (by kernel_rfl)
  go_wp2_with (at_builtin; refine wpList_append_lies _ rfl _ _ 37 rfl L 3 i3 (.int .i64 0) 1 8 Yba.underlying37 hi3 hz3 hs3 hb3 rfl (by omega) (.slice ra 0 rc) 0 [] rfl (ownsRow_below hO (Below.drew (Below.alloc (Below.refl _ _) (by simp) _))) ⟨W1.heap.size, 0, none⟩ 1 1 [.int .i64 (x : Int)] rfl rfl (cells_new1 (by simp) _ _) (by simp [Value.oneCell']) (by omega) (by unfold maxLen; omega) (by omega) (by have := h1.LW; simp; omega) _ rfl ?_; intro g cap w1 hown hgrow hat hlt9; have g0 : w1.cell? ⟨B 0, 8, none⟩ = some (.slice ra v.reached.length rc) := hgrow.cell (by go_simp) ne0; have g4 : w1.frozen? ⟨B 0, 8, none⟩ = false := (World.frozen?_of_block (a := ⟨B 0, 8, none⟩) (hgrow.block (B 0) (by simp; omega) ne0)).trans (by go_simp))
  have hBa : Below _ _ ((((W1.setCell ⟨B 5, x, none⟩ (Value.int IntKind.i64 (v.mark + 1))).setCell ⟨B 4, x, none⟩ (Value.int IntKind.i64 0)).alloc (Obj.cells #[Value.int .i64 (x : Int)] 3)).drew) := Below.drew (Below.alloc (Below.refl ((W1.setCell ⟨B 5, x, none⟩ (Value.int IntKind.i64 (v.mark + 1))).setCell ⟨B 4, x, none⟩ (Value.int IntKind.i64 0)).heap.size _) (by simp) _)
  obtain ⟨⟨blk3, cont3, cp3, h3⟩, hb3'⟩ := (h2.grow hBa).newR (x := x) hown hgrow (hat.elim (fun q => .inl q.symm) (fun q => .inr (by rw [q]; rfl)))
  have hb4 : Below L W (w1.setCell ⟨B 0, 8, none⟩ (Value.slice (some ⟨g, 0, none⟩) (0 + 1) cap)) := hb1.trans (hb2.trans ((hBa.mono h2.LW).trans hb3'))
  have hS3 : St L B c (startV v x) (w1.setCell ⟨B 0, 8, none⟩ (Value.slice (some ⟨g, 0, none⟩) (0 + 1) cap)) := ⟨_, _, _, _, _, h3⟩
  clear h3 hb3' hBa hgrow hown hat hlt9 g0 g4 hO hb2 h2 ne0 b0 xs xl z0 z4 z5 f5 f6 f7 f8 h h1
  go_loopg [5] c.N (fun g s5 wr => ∃ (v1 : NV) (i : Nat), i + g = c.N ∧ s5 = .int .i64 (i : Int) ∧ St L B c v1 wr ∧ MI c v x v1 i 0 ∧ i ≤ v1.reached.length ∧ Below L W wr)
  case atStart => exact ⟨startV v x, 0, by omega, rfl, hS3, HMS, by omega, hb4⟩
  case round =>
    clear hS3 hb4
    obtain ⟨v1, i, hig, rfl, ⟨rv1, cv1, blk1, cont1, cp1, h1⟩, hMI, hil, hbw⟩ := hrel
    have HG : Hid (i + gk = c.N) := hig
    clear hig
    have hlN := hMI.length
    have f0 := h1.field (i := 0) rfl
    have f8 := h1.field (i := 8) rfl
    ((try unfold nv at *); (try unfold iv at *))
    by_cases hlt : i < v1.reached.length
    · have hlti : (i : Int) < (v1.reached.length : Int) := by omega
      obtain ⟨rb, rcap, hrv, hrd⟩ := h1.reachv hlt
      subst hrv
      obtain ⟨u, hue⟩ : ∃ u, rd v1 i = u := ⟨_, rfl⟩
      have HUE : Hid (rd v1 i = u) := hue
      have hu : u < c.N := by rw [← hue]; exact hMI.lt _ (rd_mem hlt)
      rw [hue] at hrd
      clear hue
      have o1 := h1.outv hu
      obtain ⟨oa, ocap, hov⟩ := h1.ovform hu
      rw [hov] at o1
      have hui : (u : Int) < (c.N : Int) := by omega
      ((try unfold nv at *); (try unfold iv at *))
      go_wp2_with fail
      go_loopg [68] (c.og u).length (fun g s68 wq => ∃ (v2 : NV) (q : Nat), q + g = (c.og u).length ∧ s68 = .int .i64 (q : Int) ∧ St L B c v2 wq ∧ MI c v x v2 i q ∧ i < v2.reached.length ∧ rd v2 i = u ∧ Below L W wq)
      case atStart => exact ⟨v1, 0, by omega, rfl, ⟨_, _, _, _, _, h1⟩, hMI, hlt, HUE.out, hbw⟩
      case round =>
        have HOV : Hid (c.ov u = .slice oa (c.og u).length ocap) := hov
        clear h1 hMI hbw f0 f8 o1 hrd hov
        obtain ⟨v2, q, hqg, rfl, ⟨rv2, cv2, blk2, cont2, cp2, h2⟩, hM2, hi2, hru, hbw⟩ := hrel
        have HQG : Hid (q + gk = (c.og u).length) := hqg
        clear hqg
        have HRU : Hid (rd v2 i = u) := hru
        clear hru
        obtain ⟨oa2, ocap2, hov2⟩ := h2.ovform hu
        have f0 := h2.field (i := 0) rfl
        have f1 := h2.field (i := 1) rfl
        have f2 := h2.field (i := 2) rfl
        have f3 := h2.field (i := 3) rfl
        have f5 := h2.field (i := 5) rfl
        have f6 := h2.field (i := 6) rfl
        have f7 := h2.field (i := 7) rfl
        have f8 := h2.field (i := 8) rfl
        obtain ⟨mk, hmk⟩ : ∃ x, v2.mark = x := ⟨_, rfl⟩
        have HMK : Hid (v2.mark = mk) := hmk
        ((try unfold nv at *); (try unfold iv at *))
        rw [hmk] at f7
        clear hmk
        by_cases hq : q < (c.og u).length
        · have hqi : (q : Int) < ((c.og u).length : Int) := by omega
          obtain ⟨ab, acap, ha1, ha2, ha3⟩ := h2.arcv hu hq
          obtain ⟨haA, hafr⟩ := hc.og u hu q hq
          obtain ⟨a, hae⟩ : ∃ a, arc c u q = a := ⟨_, rfl⟩
          have HAE : Hid (arc c (rd v2 i) q = a) := by rw [HRU.out]; exact hae
          have ha2' : wr.cell? ⟨ab, q, none⟩ = some (.int .i64 (a : Int)) := by rw [← hae]; exact ha2
          rw [hae] at haA
          have hoab : oa = some ⟨ab, 0, none⟩ ∧ ocap = acap := by
            have := HOV.out
            rw [ha1] at this
            cases this
            exact ⟨rfl, rfl⟩
          obtain ⟨hoa1, hoa2⟩ := hoab
          subst hoa1
          subst hoa2
          clear hae ha1 ha2 hafr hov2
          have htN := hc.to a haA
          have t1 := h2.tov haA
          obtain ⟨t, hte⟩ : ∃ t, tt c a = t := ⟨_, rfl⟩
          have HTE : Hid (tt c (arc c (rd v2 i) q) = t) := by rw [HAE.out]; exact hte
          have t1' : wr.cell? ⟨B 2, a, none⟩ = some (.int .i64 (t : Int)) := by rw [← hte]; exact t1
          rw [hte] at htN
          clear hte t1
          have r1 := h2.roomv haA
          obtain ⟨ra, hra⟩ : ∃ x, v2.room.getD a 0 = x := ⟨_, rfl⟩
          have HRA : Hid (rm v2 (arc c (rd v2 i) q) = ra) := by rw [HAE.out]; exact hra
          have s1 := h2.seenv htN
          obtain ⟨st, hst⟩ : ∃ x, v2.seen.getD t 0 = x := ⟨_, rfl⟩
          have HST : Hid (sn v2 t = st) := hst
          have l2 := h2.levelv hu
          obtain ⟨lu, hlvu⟩ : ∃ x, v2.level.getD u 0 = x := ⟨_, rfl⟩
          have HLU : Hid (lv v2 (rd v2 i) = lu) := by rw [HRU.out]; exact hlvu
          ((try unfold nv at *); (try unfold iv at *))
          rw [hra] at r1
          rw [hst] at s1
          rw [hlvu] at l2
          clear hra hst hlvu
          have hai : (a : Int) < (c.A : Int) := by omega
          have hti : (t : Int) < (c.N : Int) := by omega
          have hlub : 0 ≤ lu ∧ lu ≤ 100 := by
            have := hM2.lev i hi2
            have := hM2.length
            rw [HLU.out] at *
            omega
          obtain ⟨hlu0, hlu1⟩ := hlub
          have hq9 : (q : Int) < 10000 := by have := hc.ol u hu; omega
          go_wp2_with fail
          by_cases hr0 : ra = 0
          · have q0 : (ra == 0) = true := by rw [hr0]; rfl
            have HR0 : Hid (ra = 0) := hr0
            clear hr0
            go_quiet (fail)
            go_wp2_with fail
            go_roundg (gk - 1)
            case measure =>
              have := HQG.out
              omega
            case rel =>
              have := HQG.out
              exact ⟨v2, q + 1, by omega, by push_cast; rfl, ⟨_, _, _, _, _, h2.drewN _⟩, hM2.skip (.inl (HRA.out.trans HR0.out)) (by rw [HTE.out]; exact htN), hi2, HRU.out, hbw.trans (Below_drewN (Below.refl _ _) _)⟩
          · have q0 : (ra == 0) = false := beq_eq_false_iff_ne.2 hr0
            by_cases hs0 : st = mk
            · have q1 : (st == mk) = true := by rw [hs0]; exact beq_self_eq_true _
              have HS0 : Hid (st = mk) := hs0
              clear hs0
              go_quiet (fail)
              go_wp2_with fail
              go_roundg (gk - 1)
              case measure =>
                have := HQG.out
                omega
              case rel =>
                have := HQG.out
                exact ⟨v2, q + 1, by omega, by push_cast; rfl, ⟨_, _, _, _, _, h2.drewN _⟩, hM2.skip (.inr (by rw [HTE.out, HMK.out]; exact HST.out.trans HS0.out)) (by rw [HTE.out]; exact htN), hi2, HRU.out, hbw.trans (Below_drewN (Below.refl _ _) _)⟩
            · have q1 : (st == mk) = false := beq_eq_false_iff_ne.2 hs0
              go_quiet (fail)
              go_wp2_with fail
              refine abs_world (fun W' => N5 L B c v2 rv2 cv2 W' ∧ Below L W W') ⟨⟨_, _, _, h2.drewN _⟩, hbw.trans (Below_drewN (Below.refl _ _) _)⟩ (fun W4 ⟨⟨blk4, cont4, cp4, h4⟩, hb4⟩ => ?_)
              clear f0 f1 f2 f3 f5 f6 f7 f8 ha2' t1' r1 s1 l2 hbw
              have f6 := h4.field (i := 6) rfl
              have f7 := h4.field (i := 7) rfl
              have z5 := h4.ffz 5 (by omega) t
              have s1 := h4.seenv htN
              ((try unfold nv at *); (try unfold iv at *))
              rw [HMK.out] at f7
              go_still_tail 10, (by kernel_rfl)
              go_wp2_with fail
              refine abs_world (fun W' => N5 L B c { v2 with seen := v2.seen.set t mk } rv2 cv2 W' ∧ Below L W W') ⟨⟨_, _, _, (h4.setSeen htN mk).grow (Below.drew (Below.refl _ _))⟩, hb4.trans ((h4.hp.storeBelow (h4.bl 5 (by omega)) t (iv mk)).trans (Below.drew (Below.refl _ _)))⟩ (fun W5 ⟨⟨blk5, cont5, cp5, h5⟩, hb5⟩ => ?_)
              clear f6 f7 z5 s1 h4 hb4
              have f3 := h5.field (i := 3) rfl
              have f5 := h5.field (i := 5) rfl
              have f8 := h5.field (i := 8) rfl
              have z4 := h5.ffz 4 (by omega) t
              have z0 := h5.ffz 0 (by omega) 8
              have l1 := h5.levelv htN
              have l2 := h5.levelv hu
              have n40 : B 4 ≠ B 0 := NE (by omega) (by omega) (by omega)
              have n04 : B 0 ≠ B 4 := NE (by omega) (by omega) (by omega)
              have hl2 : lv v2 u = lu := by rw [← HRU.out]; exact HLU.out
              have h6 := h5.setLevel htN (lu + 1)
              have hb6 := hb5.trans (h5.hp.storeBelow (h5.bl 4 (by omega)) t (iv (lu + 1)))
              obtain ⟨ra2, rc2, hrv2⟩ := h5.rvform
              subst hrv2
              ((try unfold nv at *); (try unfold iv at *))
              have l2' : W5.cell? ⟨B 4, u, none⟩ = some (.int .i64 lu) := by rw [← hl2]; exact l2
              clear l2 hl2
              have ne0 : some (B 0) ≠ (Value.slice ra2 v2.reached.length rc2).ownBlock := h5.rvne (l := 0) (by omega)
              have b0 := (h5.hp.lt (h5.bl 0 (by omega))).2
              have hrl := hM2.length
              have hO := h6.ownsR
              go_still_tail 14, (by kernel_rfl)
              by_cases hts : t = c.sink
              · have hq3 : ((t : Int) == (c.sink : Int)) = true := by rw [hts]; simp
                have HTS : Hid (t = c.sink) := hts
                clear hts
                go_wp2_with fail
                go_ret
                have e7 : foundV v2 (rd v2 i) t = { v2 with seen := v2.seen.set t mk, level := v2.level.set t (lu + 1) } := by
                  unfold foundV
                  rw [HMK.out, HLU.out]
                have h7 : St L B c (foundV v2 (rd v2 i) t) ((W5.setCell ⟨B 4, t, none⟩ (.int .i64 (lu + 1))).drew) := by
                  rw [e7]
                  exact ⟨_, _, _, _, _, h6.grow (Below.drew (Below.refl _ _))⟩
                exact ⟨true, foundV v2 (rd v2 i) t, rfl, h7, hM2.found hi2 (by rw [HRU.out]; exact hq) HTE.out htN (by rw [HRA.out]; exact hr0) HTS.out, hb6.trans (Below.drew (Below.refl _ _))⟩
              · have hq3 : ((t : Int) == (c.sink : Int)) = false := beq_eq_false_iff_ne.2 (by omega)
                go_wp2_with (at_builtin; refine wpList_append_lies _ rfl _ _ 37 rfl L 3 i3 (.int .i64 0) 1 8 Yba.underlying37 hi3 hz3 hs3 hb3 rfl (by omega) (.slice ra2 v2.reached.length rc2) v2.reached.length (v2.reached.map nv) rfl (ownsRow_below hO (Below.drew (Below.alloc (Below.refl _ _) (by simp) _))) ⟨W5.heap.size, 0, none⟩ 1 1 [.int .i64 (t : Int)] rfl rfl (cells_new1 (by simp) _ _) (by simp [Value.oneCell']) (by omega) (by unfold maxLen; omega) (by omega) (by have := h5.LW; simp; omega) _ rfl ?_; intro g cap w1 hown hgrow hat hlt9; have g0 : w1.cell? ⟨B 0, 8, none⟩ = some (.slice ra2 v2.reached.length rc2) := hgrow.cell (by go_simp) ne0; have g4 : w1.frozen? ⟨B 0, 8, none⟩ = false := (World.frozen?_of_block (a := ⟨B 0, 8, none⟩) (hgrow.block (B 0) (by simp; omega) ne0)).trans (by go_simp))
                have hBa : Below _ _ ((((W5.setCell ⟨B 4, t, none⟩ (Value.int IntKind.i64 (lu + 1)))).alloc (Obj.cells #[Value.int .i64 (t : Int)] 3)).drew) := Below.drew (Below.alloc (Below.refl (W5.setCell ⟨B 4, t, none⟩ (Value.int IntKind.i64 (lu + 1))).heap.size _) (by simp) _)
                obtain ⟨⟨blk7, cont7, cp7, h7⟩, hb7⟩ := (h6.grow hBa).pushR (x := t) hown hgrow (hat.elim (fun q => .inl q.symm) (fun q => .inr (by rw [q]; rfl)))
                have hb8 : Below L W (w1.setCell ⟨B 0, 8, none⟩ (Value.slice (some ⟨g, 0, none⟩) (v2.reached.length + 1) cap)) := hb6.trans ((hBa.mono h6.LW).trans hb7)
                have e7 : pushV v2 (rd v2 i) t = { v2 with seen := v2.seen.set t mk, level := v2.level.set t (lu + 1), reached := v2.reached ++ [t] } := by
                  unfold pushV foundV
                  rw [HMK.out, HLU.out]
                have h8 : St L B c (pushV v2 (rd v2 i) t) (w1.setCell ⟨B 0, 8, none⟩ (Value.slice (some ⟨g, 0, none⟩) (v2.reached.length + 1) cap)) := by
                  rw [e7]
                  exact ⟨_, _, _, _, _, h7⟩
                go_roundg (gk - 1)
                case measure =>
                  have := HQG.out
                  omega
                case rel =>
                  have := HQG.out
                  refine ⟨pushV v2 (rd v2 i) t, q + 1, by omega, by push_cast; rfl, h8, hM2.push hi2 (by rw [HRU.out]; exact hq) HTE.out htN (by rw [HRA.out]; exact hr0) (by rw [HST.out, HMK.out]; exact hs0) hts, ?_, ?_, hb8⟩
                  · show i < (v2.reached ++ [t]).length
                    simp
                    omega
                  · show (v2.reached ++ [t]).getD i 0 = u
                    rw [getD_app, if_pos hi2]
                    exact HRU.out
        · have hqi : ¬ (q : Int) < ((c.og u).length : Int) := by omega
          have hi9 : (i : Int) < 10000 := by omega
          go_wp2_with fail
          go_roundg (c.N - i - 1)
          case measure =>
            have := HG.out
            omega
          case rel =>
            have := HG.out
            have := hM2.length
            exact ⟨v2, i + 1, by omega, by push_cast; rfl, ⟨_, _, _, _, _, h2⟩, hM2.outer (by rw [HRU.out]; omega), by omega, hbw⟩
    · have hlti : ¬ (i : Int) < (v1.reached.length : Int) := by omega
      obtain ⟨ra1, rc1, hrv⟩ := h1.rvform
      subst hrv
      go_wp2_with fail
      go_ret
      exact ⟨false, v1, rfl, ⟨_, _, _, _, _, h1⟩, hMI.stop (by omega) hsk (fun u hu a ha => hc.to _ (hc.og u hu a ha).1), hbw⟩
end Go.Proofs.Ybulkcejy
