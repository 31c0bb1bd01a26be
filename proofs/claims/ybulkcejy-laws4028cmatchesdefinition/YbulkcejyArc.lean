import Derived.Test.YbulkcejyBF
import Derived.Test.YbulkcejyMsr
import Derived.Test.YbulkcejyDraw
namespace Go.Proofs.Ybulkcejy
open Go.RowKit
set_option linter.unusedVariables false
attribute [local go_sem] Oper.semAt_some
attribute [local go_sem ↓] Go.wp_at_zero Go.wp_at_succ

def BX (L : Nat) (W : World) (d : BD) : Prop := ∃ blk cont cp, BF L W d blk cont cp
def arcD (d : BD) (u v : Nat) (cap : Int) (tv rv : Value) (ov : Nat → Value) : BD := { d with tv := tv, rv := rv, ov := ov, to := d.to ++ [v] ++ [u], room := d.room ++ [cap] ++ [0], og := updF (updF d.og u (d.og u ++ [d.to.length])) v (updF d.og u (d.og u ++ [d.to.length]) v ++ [d.to.length + 1]) }
def ArcOut (L : Nat) (d : BD) (u v : Nat) (cap : Int) (W : World) (e : Ending) (W' : World) : Prop := ∃ tv rv ov, e = .returned (.int .i64 (d.to.length : Int)) ∧ BX L W' (arcD d u v cap tv rv ov) ∧ Below L W W'
theorem BF.lt0 {L : Nat} {W : World} {d : BD} {blk : Nat → Option Nat} {cont : Nat → List Value} {cp : Nat → Nat} (h : BF L W d blk cont cp) : d.b0 < W.heap.size := (h.hp.lt h.b0).2
theorem BF.lt1 {L : Nat} {W : World} {d : BD} {blk : Nat → Option Nat} {cont : Nat → List Value} {cp : Nat → Nat} (h : BF L W d blk cont cp) : d.b1 < W.heap.size := (h.hp.lt h.b1).2
theorem BF.ne01 {L : Nat} {W : World} {d : BD} {blk : Nat → Option Nat} {cont : Nat → List Value} {cp : Nat → Nat} (h : BF L W d blk cont cp) : d.b0 ≠ d.b1 := fun e => by
  have := h.hp.inj 0 1 d.b0 h.b0 (by rw [e]; exact h.b1)
  omega
theorem BF.ownsTo {L : Nat} {W : World} {d : BD} {blk : Nat → Option Nat} {cont : Nat → List Value} {cp : Nat → Nat} (h : BF L W d blk cont cp) : W.ownsRow L 3 1 d.tv d.to.length (d.to.map nv) := by
  have := h.s2.owns h.hp
  rw [h.k2] at this
  exact this
theorem BF.ownsRm {L : Nat} {W : World} {d : BD} {blk : Nat → Option Nat} {cont : Nat → List Value} {cp : Nat → Nat} (h : BF L W d blk cont cp) : W.ownsRow L 3 1 d.rv d.room.length (d.room.map iv) := by
  have := h.s3.owns h.hp
  rw [h.k3] at this
  exact this
theorem BF.ownsOut {L : Nat} {W : World} {d : BD} {blk : Nat → Option Nat} {cont : Nat → List Value} {cp : Nat → Nat} (h : BF L W d blk cont cp) {u : Nat} (hu : u < d.N) : W.ownsRow L 3 1 (d.ov u) (d.og u).length ((d.og u).map nv) := by
  have h1 := h.hN
  have := (h.ks u hu).1.owns h.hp
  rw [(h.ks u hu).2, show tyF (10 + u) = 3 by unfold tyF; rw [if_neg (by omega), if_neg (by omega), if_neg (by omega), if_neg (by omega)]] at this
  exact this

set_option maxRecDepth 100000 in
set_option maxHeartbeats 8000000 in
theorem addArc_calls (L : Nat) (d0 : BD) (W : World) (u v : Nat) (cap0 : Int) (hb : BX L W d0) (hu : u < d0.N) (hv : v < d0.N) (hlen : d0.to.length ≤ 100000) (hrl : d0.room.length ≤ 100000) (hogl : ∀ w, w < d0.N → (d0.og w).length ≤ 100000) :
    Calls Yba.prog 11 #[.pointer (some ⟨d0.b0, 0, none⟩), .int .i64 (u : Int), .int .i64 (v : Int), .int .i64 cap0] W (ArcOut L d0 u v cap0 W) := by
  obtain ⟨blk, cont, cp, h⟩ := hb
  obtain ⟨i3, hi3, hz3, hs3, hb3⟩ := info_parts Yba.info3
  have HN := h.hN
  obtain ⟨ta, tc, htv⟩ := h.s2.form
  obtain ⟨oa, oc, hov⟩ := (h.ks u hu).1.form
  have f0 := h.field (i := 0) rfl
  have f1 : W.cell? ⟨d0.b0, 1, none⟩ = some (.slice ta d0.to.length tc) := by rw [← htv]; exact h.field (i := 1) rfl
  have o1 : W.cell? ⟨d0.b1, u, none⟩ = some (.slice oa (d0.og u).length oc) := by rw [← hov]; exact h.outv hu
  have z1 := h.hp.frozen h.b1 u
  have lt0 := h.lt0
  have lt1 := h.lt1
  have ne0 : some d0.b0 ≠ (Value.slice oa (d0.og u).length oc).ownBlock := by rw [← hov]; exact (h.ks u hu).1.ne h.hp h.b0 (by omega)
  have ne1 : some d0.b1 ≠ (Value.slice oa (d0.og u).length oc).ownBlock := by rw [← hov]; exact (h.ks u hu).1.ne h.hp h.b1 (by omega)
  have hO : W.ownsRow L 3 1 (.slice oa (d0.og u).length oc) (d0.og u).length ((d0.og u).map nv) := by rw [← hov]; exact h.ownsOut hu
  have hui : (u : Int) < (d0.N : Int) := by omega
  have hvi : (v : Int) < (d0.N : Int) := by omega
  have hol := hogl u hu
  have hLW := h.LW
  go_enter Yba.func11, Yba.ntmps11
  go_wp2_with fail
  refine wp_draw 13 3 (by kernel_rfl) (by kernel_rfl) (fun w' => w'.cell? ⟨d0.b0, 0, none⟩ = some (.slice (some ⟨d0.b1, 0, none⟩) d0.N d0.N) ∧ w'.cell? ⟨d0.b1, u, none⟩ = some (.slice oa (d0.og u).length oc)) (by go_simp) (fun ops => ?_)
  simp only [List.take_succ_cons, List.take_zero, List.drop_succ_cons, List.drop_zero, Nat.reduceAdd]
  repeat (refine wpHeld_step ?_ (by rfl) ?_ ?_; rotate_left; focus (intro w hSw; (try dsimp only at hSw); go_simp; (try with_reducible rfl); done); try simp only [Act.put, List.setIfInBounds_toArray, List.set_cons_zero, List.set_cons_succ])
  refine wpHeld_nil ?_
  refine wpMid_step (by rfl) (fun K hK => ?_)
  go_simp
  refine hK.out _ _ (by go_simp) (fun hHeld => ?_)
  clear hK K
  refine wpMid_step (by rfl) (fun K hK => ?_)
  refine wp_append_lies _ _ _ 37 (by rfl) L 3 i3 (.int .i64 0) 1 8 Yba.underlying37 hi3 hz3 hs3 hb3 rfl (by omega) (.slice oa (d0.og u).length oc) (d0.og u).length _ (by rfl) (ownsRow_below hO (Below.drew (Below.alloc (Below.refl _ _) (by simp) _))) ⟨W.heap.size, 0, none⟩ 1 1 [.int .i64 (d0.to.length : Int)] (by rfl) (by rfl) (cells_new1 rfl _ _) (by simp [Value.oneCell']) (by omega) (by unfold maxLen; omega) (by omega) (by have := h.LW; simp; omega) _ rfl (fun g cap w1 hown hgrow hat hlt9 => ?_)
  have g0 : w1.cell? ⟨d0.b0, 0, none⟩ = some (.slice (some ⟨d0.b1, 0, none⟩) d0.N d0.N) := hgrow.cell (by go_simp) ne0
  have g1 : w1.cell? ⟨d0.b1, u, none⟩ = some (.slice oa (d0.og u).length oc) := hgrow.cell (by go_simp) ne1
  have g4 : w1.frozen? ⟨d0.b1, u, none⟩ = false := (World.frozen?_of_block (a := ⟨d0.b1, u, none⟩) (hgrow.block d0.b1 (by simp; omega) ne1)).trans (by go_simp)
  refine hK.out _ _ ⟨g0, g1⟩ (fun hHeld => ?_)
  clear hK K
  simp only [Act.put, List.setIfInBounds_toArray, List.set_cons_zero, List.set_cons_succ]
  refine wpMid_step (by rfl) (fun K hK => ?_)
  go_simp
  refine hK.out _ _ ⟨g0, g1⟩ (fun hHeld => ?_)
  clear hK K
  refine wpMid_nil ?_
  go_wp2_with fail
  refine NoPanic.normal ?_
  have hBa : Below W.heap.size W ((W.alloc (Obj.cells #[.int .i64 (d0.to.length : Int)] 3)).drew) := Below.drew (Below.alloc (Below.refl _ _) (Nat.le_refl _) _)
  obtain ⟨⟨blk2, cont2, cp2, h2⟩, hb2⟩ := (h.grow hBa).pushOut hu (x := d0.to.length) hown (by rw [hov]; exact hgrow) (by rw [hov]; exact hat.elim (fun q => .inl q.symm) (fun q => .inr (by rw [q]; rfl)))
  have hbA := (hBa.mono h.LW).trans hb2
  generalize hW2 : w1.setCell ⟨d0.b1, u, none⟩ (Value.slice (some ⟨g, 0, none⟩) ((d0.og u).length + 1) cap) = W2 at h2 hbA
  generalize hov1 : updF d0.ov u (Value.slice (some ⟨g, 0, none⟩) ((d0.og u).length + 1) cap) = ov1 at h2
  clear hBa hb2 hown hgrow hat hlt9 g0 g1 g4 hHeld f0 f1 o1 z1 hov1
  obtain ⟨ra, rc, hrv⟩ : ∃ ra rc, d0.rv = .slice ra d0.room.length rc := h2.s3.form
  have hOT1 : W2.ownsRow L 3 1 (.slice ta d0.to.length tc) (d0.to.length) (d0.to.map nv) := by rw [← htv]; exact h2.ownsTo
  have neT1 : some d0.b0 ≠ (.slice ta d0.to.length tc : Value).ownBlock := by rw [← htv]; exact h2.s2.ne h2.hp h2.b0 (by omega)
  have fT1 : W2.cell? ⟨d0.b0, 1, none⟩ = some (.slice ta d0.to.length tc) := by rw [← htv]; exact h2.field (i := 1) rfl
  have zT1 : W2.frozen? ⟨d0.b0, 1, none⟩ = false := h2.hp.frozen h2.b0 1
  have lt01 : d0.b0 < W2.heap.size := h2.lt0
  have hBT1 : Below W2.heap.size W2 (W2.alloc (Obj.cells #[.int .i64 (v : Int)] 3)) := (Below.refl _ _).alloc (Nat.le_refl _) _
  go_wp2_with (first
    | (at_builtin; refine wpList_append_lies _ rfl _ _ 37 rfl L 3 i3 (.int .i64 0) 1 8 Yba.underlying37 hi3 hz3 hs3 hb3 rfl (by omega) (.slice ta d0.to.length tc) (d0.to.length) _ rfl (ownsRow_below hOT1 hBT1) ⟨W2.heap.size, 0, none⟩ 1 1 [.int .i64 (v : Int)] rfl rfl (cells_new1 (by simp) _ _) (by simp [Value.oneCell']) (by omega) (by unfold maxLen; omega) (by omega) (by have := h2.LW; simp; omega) _ rfl ?_; intro gt1 capt1 wt1 hownt1 hgrowt1 hatt1 hltt1; have t01 : wt1.cell? ⟨d0.b0, 1, none⟩ = some (.slice ta d0.to.length tc) := hgrowt1.cell (by go_simp) neT1; have t41 : wt1.frozen? ⟨d0.b0, 1, none⟩ = false := (World.frozen?_of_block (a := ⟨d0.b0, 1, none⟩) (hgrowt1.block d0.b0 (by simp; omega) neT1)).trans (by go_simp); obtain ⟨⟨blkt1, contt1, cpt1, ht1⟩, hbt1⟩ := (h2.grow hBT1).pushTo (x := v) hownt1 (by rw [show _ = (.slice ta d0.to.length tc : Value) from htv]; exact hgrowt1) (by rw [show _ = (.slice ta d0.to.length tc : Value) from htv]; exact hatt1.elim (fun q => .inl q.symm) (fun q => .inr (by rw [q]; rfl))); have hOR1 : (wt1.setCell ⟨d0.b0, 1, none⟩ (.slice (some ⟨gt1, 0, none⟩) (d0.to.length + 1) capt1)).ownsRow L 3 1 (.slice ra d0.room.length rc) (d0.room.length) (d0.room.map iv) := (by rw [← hrv]; exact ht1.ownsRm); have neR1 : some d0.b0 ≠ (.slice ra d0.room.length rc : Value).ownBlock := (by rw [← hrv]; exact ht1.s3.ne ht1.hp ht1.b0 (by omega)); have fR1 : (wt1.setCell ⟨d0.b0, 1, none⟩ (.slice (some ⟨gt1, 0, none⟩) (d0.to.length + 1) capt1)).cell? ⟨d0.b0, 2, none⟩ = some (.slice ra d0.room.length rc) := (by rw [← hrv]; exact ht1.field (i := 2) rfl); have zR1 : (wt1.setCell ⟨d0.b0, 1, none⟩ (.slice (some ⟨gt1, 0, none⟩) (d0.to.length + 1) capt1)).frozen? ⟨d0.b0, 2, none⟩ = false := ht1.hp.frozen ht1.b0 2; have fR1' : wt1.cell? ⟨d0.b0, 2, none⟩ = some (.slice ra d0.room.length rc) := (by rw [← fR1]; exact (World.cell?_setCell_other _ _ _ _ (by simp)).symm); have zR1' : wt1.frozen? ⟨d0.b0, 2, none⟩ = false := (by rw [← zR1]; simp))
    | (at_builtin; refine wpList_append_lies _ rfl _ _ 37 rfl L 3 i3 (.int .i64 0) 1 8 Yba.underlying37 hi3 hz3 hs3 hb3 rfl (by omega) (.slice ra d0.room.length rc) (d0.room.length) _ rfl (ownsRow_below hOR1 ((Below.refl _ _).alloc (by simp) _)) ⟨wt1.heap.size, 0, none⟩ 1 1 [.int .i64 (cap0)] rfl rfl (cells_new1 (by simp) _ _) (by simp [Value.oneCell']) (by omega) (by unfold maxLen; omega) (by omega) (by have := ht1.LW; simp at this; simp; omega) _ rfl ?_; intro gr1 capr1 wr1 hownr1 hgrowr1 hatr1 hltr1; have r01 : wr1.cell? ⟨d0.b0, 2, none⟩ = some (.slice ra d0.room.length rc) := hgrowr1.cell ((((Below.refl _ _).alloc (Nat.le_refl _) _).cell (p := ⟨d0.b0, 2, none⟩) ht1.lt0).trans fR1) neR1; have r41 : wr1.frozen? ⟨d0.b0, 2, none⟩ = false := (World.frozen?_of_block (a := ⟨d0.b0, 2, none⟩) ((hgrowr1.block d0.b0 (by have := ht1.lt0; simp at this; simp; omega) neR1).trans (((Below.refl _ _).alloc (Nat.le_refl _) _).block d0.b0 ht1.lt0))).trans zR1))
  obtain ⟨⟨blkr1, contr1, cpr1, hr1⟩, hbr1⟩ := (ht1.grow ((Below.refl _ _).alloc (Nat.le_refl _) (Obj.cells #[.int .i64 (cap0)] 3))).pushRoom (x := cap0) hownr1 (by rw [show _ = (.slice ra d0.room.length rc : Value) from hrv]; exact hgrowr1) (by rw [show _ = (.slice ra d0.room.length rc : Value) from hrv]; exact hatr1.elim (fun q => .inl q.symm) (fun q => .inr (by rw [q]; rfl)))
  have hbB1 := ((hBT1.mono h2.LW).trans hbt1).trans (((Below.refl _ _).alloc ht1.LW (Obj.cells #[.int .i64 (cap0)] 3)).trans hbr1)
  generalize hWr1 : wr1.setCell ⟨d0.b0, 2, none⟩ (Value.slice (some ⟨gr1, 0, none⟩) (d0.room.length + 1) capr1) = W4 at hr1 hbB1
  clear hownr1 hgrowr1 hatr1 hltr1 r01 r41 hOR1 neR1 fR1 zR1 fR1' zR1' hownt1 hgrowt1 hatt1 hltt1 t01 t41 hOT1 neT1 fT1 zT1 ht1 hbt1 hbr1 hBT1
  have f04 : W4.cell? ⟨d0.b0, 0, none⟩ = some (.slice (some ⟨d0.b1, 0, none⟩) d0.N d0.N) := hr1.field (i := 0) rfl
  have f14 : W4.cell? ⟨d0.b0, 1, none⟩ = some (.slice (some ⟨gt1, 0, none⟩) (d0.to.length + 1) capt1) := hr1.field (i := 1) rfl
  obtain ⟨ov4, hov4⟩ : ∃ x, ov1 v = x := ⟨_, rfl⟩
  obtain ⟨ol, hol4⟩ : ∃ x, (updF d0.og u (d0.og u ++ [d0.to.length]) v).length = x := ⟨_, rfl⟩
  obtain ⟨oa4, oc4, hovv⟩ : ∃ a c, ov1 v = .slice a (updF d0.og u (d0.og u ++ [d0.to.length]) v).length c := (hr1.ks v hv).1.form
  have hol4b : ol ≤ 100001 := by
    rw [← hol4]
    by_cases e : v = u
    · rw [e, updF_same, List.length_append]
      have := hogl u hu
      simp
      omega
    · rw [updF_ne _ _ e]
      have := hogl v hv
      omega
  rw [hol4] at hovv
  have o14 : W4.cell? ⟨d0.b1, v, none⟩ = some (.slice oa4 ol oc4) := by rw [← hovv]; exact hr1.outv hv
  have z14 : W4.frozen? ⟨d0.b1, v, none⟩ = false := hr1.hp.frozen hr1.b1 v
  have lt04 : d0.b0 < W4.heap.size := hr1.lt0
  have lt14 : d0.b1 < W4.heap.size := hr1.lt1
  have ne0b : some d0.b0 ≠ (Value.slice oa4 ol oc4).ownBlock := by rw [← hovv]; exact (hr1.ks v hv).1.ne hr1.hp hr1.b0 (by omega)
  have ne1b : some d0.b1 ≠ (Value.slice oa4 ol oc4).ownBlock := by rw [← hovv]; exact (hr1.ks v hv).1.ne hr1.hp hr1.b1 (by omega)
  have hOb : W4.ownsRow L 3 1 (.slice oa4 ol oc4) ol ((updF d0.og u (d0.og u ++ [d0.to.length]) v).map nv) := by rw [← hovv, ← hol4]; exact hr1.ownsOut hv
  refine wp_draw 17 3 (by kernel_rfl) (by kernel_rfl) (fun w' => w'.cell? ⟨d0.b0, 0, none⟩ = some (.slice (some ⟨d0.b1, 0, none⟩) d0.N d0.N) ∧ w'.cell? ⟨d0.b1, v, none⟩ = some (.slice oa4 ol oc4) ∧ w'.cell? ⟨d0.b0, 1, none⟩ = some (.slice (some ⟨gt1, 0, none⟩) (d0.to.length + 1) capt1)) (by go_simp) (fun ops => ?_)
  simp only [List.take_succ_cons, List.take_zero, List.drop_succ_cons, List.drop_zero, Nat.reduceAdd]
  repeat (refine wpHeld_step ?_ (by rfl) ?_ ?_; rotate_left; focus (intro w hSw; (try dsimp only at hSw); go_simp; (try with_reducible rfl); done); try simp only [Act.put, List.setIfInBounds_toArray, List.set_cons_zero, List.set_cons_succ])
  refine wpHeld_nil ?_
  refine wpMid_step (by rfl) (fun K hK => ?_)
  go_simp
  refine hK.out _ _ (by go_simp) (fun hHeld => ?_)
  clear hK K
  refine wpMid_step (by rfl) (fun K hK => ?_)
  refine wp_append_lies _ _ _ 37 (by rfl) L 3 i3 (.int .i64 0) 1 8 Yba.underlying37 hi3 hz3 hs3 hb3 rfl (by omega) (.slice oa4 ol oc4) ol _ (by rfl) (ownsRow_below hOb (Below.drew (Below.alloc (Below.refl _ _) (by simp) _))) ⟨W4.heap.size, 0, none⟩ 1 1 [.int .i64 ((d0.to.length : Int) + 1)] (by rfl) (by rfl) (cells_new1 rfl _ _) (by simp [Value.oneCell']) (by omega) (by unfold maxLen; omega) (by omega) (by have := hr1.LW; simp; omega) _ rfl (fun g cap w1 hown hgrow hat hlt9 => ?_)
  have g0 : w1.cell? ⟨d0.b0, 0, none⟩ = some (.slice (some ⟨d0.b1, 0, none⟩) d0.N d0.N) := hgrow.cell (by go_simp) ne0b
  have g1 : w1.cell? ⟨d0.b1, v, none⟩ = some (.slice oa4 ol oc4) := hgrow.cell (by go_simp) ne1b
  have g4 : w1.frozen? ⟨d0.b1, v, none⟩ = false := (World.frozen?_of_block (a := ⟨d0.b1, v, none⟩) (hgrow.block d0.b1 (by simp; omega) ne1b)).trans (by go_simp)
  have g2 : w1.cell? ⟨d0.b0, 1, none⟩ = some (.slice (some ⟨gt1, 0, none⟩) (d0.to.length + 1) capt1) := hgrow.cell (by go_simp) ne0b
  refine hK.out _ _ ⟨g0, g1, g2⟩ (fun hHeld => ?_)
  clear hK K
  simp only [Act.put, List.setIfInBounds_toArray, List.set_cons_zero, List.set_cons_succ]
  refine wpMid_step (by rfl) (fun K hK => ?_)
  go_simp
  refine hK.out _ _ ⟨g0, g1, g2⟩ (fun hHeld => ?_)
  clear hK K
  refine wpMid_nil ?_
  go_wp2_with fail
  refine NoPanic.normal ?_
  have hBb : Below W4.heap.size W4 ((W4.alloc (Obj.cells #[.int .i64 ((d0.to.length : Int) + 1)] 3)).drew) := Below.drew (Below.alloc (Below.refl _ _) (Nat.le_refl _) _)
  have hgv : ((W4.alloc (Obj.cells #[.int .i64 ((d0.to.length : Int) + 1)] 3)).drew).grownBy w1 (ov1 v).ownBlock := by rw [hovv]; exact hgrow
  have hav : (Value.slice (some ⟨g, 0, none⟩) (ol + 1) cap).ownBlock = (ov1 v).ownBlock ∨ (Value.slice (some ⟨g, 0, none⟩) (ol + 1) cap).ownBlock = some ((W4.alloc (Obj.cells #[.int .i64 ((d0.to.length : Int) + 1)] 3)).drew).heap.size := by rw [hovv]; exact hat.elim (fun q => .inl q.symm) (fun q => .inr (by rw [q]; rfl))
  have enx : nv (d0.to.length + 1) = .int .i64 ((d0.to.length : Int) + 1) := rfl
  obtain ⟨⟨blk6, cont6, cp6, h6⟩, hb6⟩ := (hr1.grow hBb).pushOut hv (x := d0.to.length + 1) (by rw [enx]; show w1.ownsRow L 3 1 _ ((updF d0.og u (d0.og u ++ [d0.to.length]) v).length + 1) _; rw [hol4]; exact hown) hgv hav
  have hbC := (hBb.mono hr1.LW).trans hb6
  generalize hW6 : w1.setCell ⟨d0.b1, v, none⟩ (Value.slice (some ⟨g, 0, none⟩) (ol + 1) cap) = W6 at h6 hbC
  generalize hov6 : updF ov1 v (Value.slice (some ⟨g, 0, none⟩) (ol + 1) cap) = ov6 at h6
  clear hgv hav hBb hb6 hown hgrow hat hlt9 g0 g1 g2 g4 hHeld f04 f14 o14 z14 hov6 hOb ne0b ne1b
  have hlT : (d0.to ++ [v]).length = d0.to.length + 1 := by simp
  have hlR : (d0.room ++ [cap0]).length = d0.room.length + 1 := by simp
  have hOT2 : W6.ownsRow L 3 1 (.slice (some ⟨gt1, 0, none⟩) (d0.to.length + 1) capt1) (d0.to.length + 1) ((d0.to ++ [v]).map nv) := by
    have q : W6.ownsRow L 3 1 (.slice (some ⟨gt1, 0, none⟩) (d0.to.length + 1) capt1) (d0.to ++ [v]).length ((d0.to ++ [v]).map nv) := h6.ownsTo
    rw [hlT] at q
    exact q
  have neT2 : some d0.b0 ≠ (.slice (some ⟨gt1, 0, none⟩) (d0.to.length + 1) capt1 : Value).ownBlock := h6.s2.ne h6.hp h6.b0 (by omega)
  have fT2 : W6.cell? ⟨d0.b0, 1, none⟩ = some (.slice (some ⟨gt1, 0, none⟩) (d0.to.length + 1) capt1) := h6.field (i := 1) rfl
  have zT2 : W6.frozen? ⟨d0.b0, 1, none⟩ = false := h6.hp.frozen h6.b0 1
  have lt02 : d0.b0 < W6.heap.size := h6.lt0
  have hBT2 : Below W6.heap.size W6 (W6.alloc (Obj.cells #[.int .i64 (u : Int)] 3)) := (Below.refl _ _).alloc (Nat.le_refl _) _
  go_wp2_with (first
    | (at_builtin; refine wpList_append_lies _ rfl _ _ 37 rfl L 3 i3 (.int .i64 0) 1 8 Yba.underlying37 hi3 hz3 hs3 hb3 rfl (by omega) (.slice (some ⟨gt1, 0, none⟩) (d0.to.length + 1) capt1) (d0.to.length + 1) _ rfl (ownsRow_below hOT2 hBT2) ⟨W6.heap.size, 0, none⟩ 1 1 [.int .i64 (u : Int)] rfl rfl (cells_new1 (by simp) _ _) (by simp [Value.oneCell']) (by omega) (by unfold maxLen; omega) (by omega) (by have := h6.LW; simp; omega) _ rfl ?_; intro gt2 capt2 wt2 hownt2 hgrowt2 hatt2 hltt2; have t02 : wt2.cell? ⟨d0.b0, 1, none⟩ = some (.slice (some ⟨gt1, 0, none⟩) (d0.to.length + 1) capt1) := hgrowt2.cell (by go_simp) neT2; have t42 : wt2.frozen? ⟨d0.b0, 1, none⟩ = false := (World.frozen?_of_block (a := ⟨d0.b0, 1, none⟩) (hgrowt2.block d0.b0 (by simp; omega) neT2)).trans (by go_simp); obtain ⟨⟨blkt2, contt2, cpt2, ht2⟩, hbt2⟩ := (h6.grow hBT2).pushTo (tv' := .slice (some ⟨gt2, 0, none⟩) (d0.to.length + 1 + 1) capt2) (x := u) (by show wt2.ownsRow L 3 1 _ ((d0.to ++ [v]).length + 1) _; rw [hlT]; exact hownt2) hgrowt2 (hatt2.elim (fun q => .inl q.symm) (fun q => .inr (by rw [q]; rfl))); have hOR2 : (wt2.setCell ⟨d0.b0, 1, none⟩ (.slice (some ⟨gt2, 0, none⟩) (d0.to.length + 1 + 1) capt2)).ownsRow L 3 1 (.slice (some ⟨gr1, 0, none⟩) (d0.room.length + 1) capr1) (d0.room.length + 1) ((d0.room ++ [cap0]).map iv) := (by have q : (wt2.setCell ⟨d0.b0, 1, none⟩ (.slice (some ⟨gt2, 0, none⟩) (d0.to.length + 1 + 1) capt2)).ownsRow L 3 1 (.slice (some ⟨gr1, 0, none⟩) (d0.room.length + 1) capr1) (d0.room ++ [cap0]).length ((d0.room ++ [cap0]).map iv) := ht2.ownsRm; rw [hlR] at q; exact q); have neR2 : some d0.b0 ≠ (.slice (some ⟨gr1, 0, none⟩) (d0.room.length + 1) capr1 : Value).ownBlock := ht2.s3.ne ht2.hp ht2.b0 (by omega); have fR2 : (wt2.setCell ⟨d0.b0, 1, none⟩ (.slice (some ⟨gt2, 0, none⟩) (d0.to.length + 1 + 1) capt2)).cell? ⟨d0.b0, 2, none⟩ = some (.slice (some ⟨gr1, 0, none⟩) (d0.room.length + 1) capr1) := ht2.field (i := 2) rfl; have zR2 : (wt2.setCell ⟨d0.b0, 1, none⟩ (.slice (some ⟨gt2, 0, none⟩) (d0.to.length + 1 + 1) capt2)).frozen? ⟨d0.b0, 2, none⟩ = false := ht2.hp.frozen ht2.b0 2; have fR2' : wt2.cell? ⟨d0.b0, 2, none⟩ = some (.slice (some ⟨gr1, 0, none⟩) (d0.room.length + 1) capr1) := (by rw [← fR2]; exact (World.cell?_setCell_other _ _ _ _ (by simp)).symm); have zR2' : wt2.frozen? ⟨d0.b0, 2, none⟩ = false := (by rw [← zR2]; simp))
    | (at_builtin; refine wpList_append_lies _ rfl _ _ 37 rfl L 3 i3 (.int .i64 0) 1 8 Yba.underlying37 hi3 hz3 hs3 hb3 rfl (by omega) (.slice (some ⟨gr1, 0, none⟩) (d0.room.length + 1) capr1) (d0.room.length + 1) _ rfl (ownsRow_below hOR2 ((Below.refl _ _).alloc (by simp) _)) ⟨wt2.heap.size, 0, none⟩ 1 1 [.int .i64 (0)] rfl rfl (cells_new1 (by simp) _ _) (by simp [Value.oneCell']) (by omega) (by unfold maxLen; omega) (by omega) (by have := ht2.LW; simp at this; simp; omega) _ rfl ?_; intro gr2 capr2 wr2 hownr2 hgrowr2 hatr2 hltr2; have r02 : wr2.cell? ⟨d0.b0, 2, none⟩ = some (.slice (some ⟨gr1, 0, none⟩) (d0.room.length + 1) capr1) := hgrowr2.cell ((((Below.refl _ _).alloc (Nat.le_refl _) _).cell (p := ⟨d0.b0, 2, none⟩) ht2.lt0).trans fR2) neR2; have r42 : wr2.frozen? ⟨d0.b0, 2, none⟩ = false := (World.frozen?_of_block (a := ⟨d0.b0, 2, none⟩) ((hgrowr2.block d0.b0 (by have := ht2.lt0; simp at this; simp; omega) neR2).trans (((Below.refl _ _).alloc (Nat.le_refl _) _).block d0.b0 ht2.lt0))).trans zR2))
  go_ret
  obtain ⟨⟨blkr2, contr2, cpr2, hr2⟩, hbr2⟩ := (ht2.grow ((Below.refl _ _).alloc (Nat.le_refl _) (Obj.cells #[.int .i64 0] 3))).pushRoom (tv' := .slice (some ⟨gr2, 0, none⟩) (d0.room.length + 1 + 1) capr2) (x := 0) (by show wr2.ownsRow L 3 1 _ ((d0.room ++ [cap0]).length + 1) _; rw [hlR]; exact hownr2) hgrowr2 (hatr2.elim (fun q => .inl q.symm) (fun q => .inr (by rw [q]; rfl)))
  have hbB2 := ((hBT2.mono h6.LW).trans hbt2).trans (((Below.refl _ _).alloc ht2.LW (Obj.cells #[.int .i64 0] 3)).trans hbr2)
  exact ⟨_, _, _, rfl, ⟨_, _, _, hr2⟩, hbA.trans (hbB1.trans (hbC.trans hbB2))⟩
end Go.Proofs.Ybulkcejy
