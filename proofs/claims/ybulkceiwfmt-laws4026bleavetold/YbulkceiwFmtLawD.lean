import Derived.Test.YbulkceiwFmtLawA
import Derived.BigQuiet
import Derived.Deep.QuietTactic
import Derived.Deep.LoopGhost
import Derived.Deep.DeepCutAuto
import Derived.Laws.NewBlocks
namespace Go.Proofs.YbulkceiwFmt
open Go.Extern.Stop Go.Stop Go.Extern Go.RowKit
set_option linter.unusedVariables false
attribute [local go_sem ↓] Go.wp_at_zero Go.wp_at_succ
attribute [local go_sem] MapAt_drew MapAt_drewN

set_option maxRecDepth 100000 in
set_option maxHeartbeats 4000000 in
theorem law_D (F : Interp) (a0 : Option Addr) (len cap : Nat) (fd : Nat → FD) (nm : ByteArray) (pick : Bool) (a b s : ByteArray) (w : World) (hF : F.answers w.tape) (hlen : 0 < len) (hl : len ≤ 1024)
    (HC : Drawn w a0 len fd) (hd : (fd (len - 1)).hf = true) (hne : ((fd (len - 1)).fn.toList == nm.toList) = false) :
    Calls Ybaf.prog 3 #[.slice a0 len cap, .string nm, .bool false, .string a, .string b, .string s] w fun e w' => e = .returned (.bool true) ∧ Below w.heap.size w w' := by
  have hmk := make_frames len hl
  have hl1 : (len : Int) ≤ 1024 := by omega
  have hl0 : ((len : Int) == 0) = false := beq_eq_false_iff_ne.2 (by omega)
  go_enter Ybaf.func3, Ybaf.ntmps3
  go_wp2_with fail
  go_loopg [15, 16, 17] len (fun g s15 s16 s17 wr => ∃ j, j + g = len ∧ s15 = .int .i64 j ∧ LSt w wr len j fd)
  case atStart => exact ⟨0, by omega, rfl, LSt.start w len fd⟩
  case round =>
    obtain ⟨j, hj, rfl, hst⟩ := hrel
    have HJ : Hid (j + gk = len) := hj
    clear hj
    by_cases hg : j < len
    · obtain ⟨bb, off, rfl, d0, d1, d2, d3, d4, d5⟩ := HC j hg
      have bw := hst.below
      have hbs := bw.size
      have hlt := hst.row.lt
      have e0 := cell_later bw d0
      have e1 := cell_later bw d1
      have e2 := cell_later bw d2
      have e3 := cell_later bw d3
      have e4 := cell_later bw d4
      have e5 := cell_later bw d5
      clear d0 d1 d2 d3 d4 d5
      have hz := hst.rest j (Nat.le_refl _) hg
      have z0 : wr.cell? ⟨w.heap.size, j * 5, none⟩ = some (.pointer none) := by
        rcases hz.f0 with ⟨_, h⟩ | ⟨h, _⟩
        · exact h
        · cases h
      have z1 := hz.f1
      have z2 := hz.f2
      have z3 := hz.f3
      have z4 := hz.f4
      have y0 := hst.row.frozen (j * 5)
      have y1 := hst.row.frozen (j * 5 + 1)
      have y2 := hst.row.frozen (j * 5 + 2)
      have y3 := hst.row.frozen (j * 5 + 3)
      have y4 := hst.row.frozen (j * 5 + 4)
      have hji : (j : Int) < len := by omega
      have hji0 : (0 : Int) ≤ j := by omega
      have t1 : w.heap.size < wr.heap.size + 1 := by omega
      have t2 : w.heap.size < wr.heap.size + 1 + 1 := by omega
      cases hd2 : (fd j).hf
      · rw [hd2] at e0
        go_wp2_with fail
        go_roundg (gk - 1)
        case measure => have := HJ.out; omega
        case rel => exact ⟨j + 1, by have := HJ.out; omega, by go_num, hst.stepNil hg hd2 _⟩
      · rw [hd2] at e0
        go_wp2_with fail
        go_roundg (gk - 1)
        case measure => have := HJ.out; omega
        case rel => exact ⟨j + 1, by have := HJ.out; omega, by go_num, hst.stepFn hg hd2 _ _ _ _⟩
    · have hji : ¬ (j : Int) < len := by omega
      have ej : j = len := by have := HJ.out; omega
      subst ej
      clear HC hg hl1 HJ hl0
      obtain ⟨m, rfl⟩ : ∃ m, j = m + 1 := ⟨j - 1, by omega⟩
      rw [Nat.add_sub_cancel] at hd hne
      have hmk' : ∀ W : World, (Instr.makeSlice 23 (.int .i64 ((m : Int) + 1)) (.int .i64 ((m : Int) + 1))).run Ybaf.prog W = .ok (.slice (some ⟨W.heap.size, 0, none⟩) (m + 1) (m + 1)) (W.alloc (.cells (frz (m + 1)) 32)) := fun W => hmk W
      clear hmk
      have hm0 : (0 : Int) ≤ m := by omega
      have hm1 : (m : Int) ≤ 1023 := by omega
      obtain ⟨W2, hcp, b2, z2, c2⟩ := copied wr (w.heap.size + 1) w.heap.size (m + 1) fd hst.row hst.done
      have C2 : Hid (∀ o, W2.cell? ⟨wr.heap.size, o, none⟩ = wr.cell? ⟨w.heap.size, o, none⟩) := c2
      clear c2
      have Z2 : Hid (W2.heap.size = wr.heap.size + 1) := z2
      clear z2
      have hmm := @run_makeMap Ybaf.prog
      have i0 := ins0 a
      have i1 := ins1 a b
      have i2 := ins2 a b s
      go_upto_region 18 with fail
      refine abs_world (fun W => W = plr Ybaf.zeroCells43 W2 w.heap.size (m + 1) a b s) rfl ?_
      intro W3 hW3
      have hfm := hst.done m (by omega)
      have c3 : ∀ o, W3.cell? ⟨wr.heap.size, o, none⟩ = wr.cell? ⟨w.heap.size, o, none⟩ := fun o => by
        rw [hW3, (plr_below _ _ _ _ _ _ _).cell (p := ⟨wr.heap.size, o, none⟩) (by show wr.heap.size < W2.heap.size; rw [Z2.out]; omega)]
        exact C2.out o
      have q1 := (c3 _).trans hfm.f1
      have q2 := (c3 _).trans hfm.f2
      have q3 := (c3 _).trans hfm.f3
      have q4 := (c3 _).trans hfm.f4
      obtain ⟨g, hp⟩ : ∃ g, wr.cell? ⟨w.heap.size, m * 5, none⟩ = some (.pointer (some ⟨g, 0, none⟩)) := by
        rcases hfm.f0 with ⟨h0, _⟩ | ⟨_, g, _, _, h0, _⟩
        · rw [hd] at h0; cases h0
        · exact ⟨g, h0⟩
      have q0 : W3.cell? ⟨wr.heap.size, m * 5, none⟩ = some (.pointer (some ⟨g, 0, none⟩)) := (c3 _).trans hp
      have E4 := ESt.make (a := a) (b := b) (s := s) (nx := (fd m).nx) (en := (fd m).en) plr_size hst b2 Z2.out C2.out hp
      have bf := bf_cells (Z := Ybaf.zeroCells43) (a := a) (b := b) (s := s) (.cells #[.pointer (some ⟨g, 0, none⟩), .int .i64 (fd m).nx, .int .i64 (fd m).en, .string (fd m).ar, .string (fd m).av] 32) hst b2 Z2.out
      rw [← hW3] at E4 bf
      have tp : (W3.alloc (.cells #[.pointer (some ⟨g, 0, none⟩), .int .i64 (fd m).nx, .int .i64 (fd m).en, .string (fd m).ar, .string (fd m).av] 32)).tape = w.tape := E4.below.tape
      have f0 := (bf _).trans hp
      obtain ⟨hgB, g0⟩ := E4.g0 g rfl
      have hg3 : g < W3.heap.size := by have h1 := E4.oM; have h2 := E4.oP; have h3 := E4.oT; omega
      have g3 : W3.cell? ⟨g, 0, none⟩ = some (.string (fd m).fn) := by rw [← World.cell?_alloc_lt W3 _ ⟨g, 0, none⟩ hg3]; exact g0
      clear hfm c3 hp hW3 hcp i0 i1 i2 hmm b2 hst bf hmk'
      have hm2 : (m : Int) < (m : Int) + 1 := by omega
      have hm3 : m ≤ 1024 := by omega
      go_wp2_with fail
      all_goals
        refine (leave_other F _ _ m (m + 1) g nm (fd m).fn _ (by rw [tp]; exact hF) hm3 E4.p5 f0 g0 hne).mono ?_
        rintro e w5 ⟨ad, rfl, hb5⟩
        have E5 := E4.later hb5
        clear hb5 E4 f0 tp q0 q1 q2 q3 q4 g0 g3 hg3
        have p1 := E5.p1
        have p5 := E5.p5
        have t0 := E5.t0
        have g5 := (E5.g0 g rfl).2
        have hmap := E5.map
        have lkS : ∀ W, MapAt W W2.heap.size (.map (ents a b s) 3) → _ := fun W h => lookStat a b s W2.heap.size W h
        have lkA : ∀ W, MapAt W W2.heap.size (.map (ents a b s) 3) → _ := fun W h => lookArgs a b s W2.heap.size W h
        have lkV : ∀ W, MapAt W W2.heap.size (.map (ents a b s) 3) → _ := fun W h => lookArgv a b s W2.heap.size W h
        have lkL : ∀ W, MapAt W W2.heap.size (.map (ents a b s) 3) → _ := fun W h => lenMap a b s W2.heap.size W h
        go_wp2_with fail
        clear p1 p5 t0 hmap lkL lkS g5
        go_loopg [23] (m + 1) (fun gg s23 wx => ∃ i : Nat, i + gg = (m + 1) ∧ s23 = .int .i64 i ∧ ESt w wx (W2.heap.size + 1) W2.heap.size w.heap.size wr.heap.size W3.heap.size (m + 1) (m + 1) a b s (fd m) (some ⟨g, 0, none⟩))
        case atStart => exact ⟨0, by omega, rfl, E5⟩
        case round =>
          clear E5
          obtain ⟨i, hi, rfl, E6⟩ := hrel
          have HI : Hid (i + gk = (m + 1)) := hi
          clear hi
          have p1 := E6.p1
          have p5 := E6.p5
          by_cases hlt : i < (m + 1)
          · have hii : (i : Int) < (m : Int) + 1 := by omega
            have hi0 : (0 : Int) ≤ i := by omega
            obtain ⟨q, nx, en, ar, av, h0, h1, h2, h3, h4, k0, k1, k2, k3, k4⟩ := E6.same i (by omega)
            have hnq := neq_same q nx en ar av
            go_wp2_with fail
            go_quiet (fail)
            go_wp2_with fail
            go_roundg (gk - 1)
            case measure => have := HI.out; omega
            case rel => exact ⟨i + 1, by have := HI.out; omega, by go_num, E6.later (belowN (Below.refl _ _) _)⟩
          · have hii : ¬ (i : Int) < (m : Int) + 1 := by omega
            have hmap := E6.map
            have bw := E6.below
            go_wp2_with fail
            go_ret
            exact ⟨rfl, bw⟩
end Go.Proofs.YbulkceiwFmt
