import Derived.Test.YbulkceiwFmtLawA
import Derived.BigQuiet
import Derived.Deep.QuietTactic
import Derived.Deep.LoopGhost
import Derived.Deep.DeepCutAuto
import Derived.Laws.NewBlocks
namespace Go.Proofs.YbulkceiwFmt
open Go.Extern.Stop Go.Stop Go.Extern Go.RowKit
set_option linter.unusedVariables false
attribute [local go_sem ↓] Go.wp_at_zero Go.wp_at_succ
attribute [local go_sem] MapAt_drew MapAt_drewN

set_option maxRecDepth 100000 in
set_option maxHeartbeats 4000000 in
theorem law_0 (F : Interp) (a0 : Option Addr) (cap : Nat) (nm : ByteArray) (pick : Bool) (a b s : ByteArray) (w : World) (hF : F.answers w.tape) :
    Calls Ybaf.prog 3 #[.slice a0 0 cap, .string nm, .bool pick, .string a, .string b, .string s] w fun e w' => e = .returned (.bool true) ∧ Below w.heap.size w w' := by
  have hmk : ∀ W : World, (Instr.makeSlice 23 (.int .i64 1) (.int .i64 1)).run Ybaf.prog W = .ok (.slice (some ⟨W.heap.size, 0, none⟩) 1 1) (W.alloc (.cells (frz 1) 32)) := fun W => make_frames 1 (by omega) W
  go_enter Ybaf.func3, Ybaf.ntmps3
  go_wp2_with fail
  go_loopg [15, 16, 17] 0 (fun g s15 s16 s17 wr => s15 = .int .i64 0 ∧ LSt w wr 1 0 (fun _ => FD.zero))
  case atStart => exact ⟨rfl, LSt.start w 1 _⟩
  case round =>
    obtain ⟨rfl, hst0⟩ := hrel
    have hst := hst0.whole
    clear hst0
    obtain ⟨W2, hcp, b2, z2, c2⟩ := copied wr (w.heap.size + 1) w.heap.size 1 (fun _ => FD.zero) hst.row hst.done
    have C2 : Hid (∀ o, W2.cell? ⟨wr.heap.size, o, none⟩ = wr.cell? ⟨w.heap.size, o, none⟩) := c2
    clear c2
    have Z2 : Hid (W2.heap.size = wr.heap.size + 1) := z2
    clear z2
    have hmm := @run_makeMap Ybaf.prog
    have i0 := ins0 a
    have i1 := ins1 a b
    have i2 := ins2 a b s
    go_upto_region 18 with fail
    refine abs_world (fun W => W = plr Ybaf.zeroCells43 W2 w.heap.size (0 + 1) a b s) rfl ?_
    intro W3 hW3
    have hfm := hst.done 0 (by omega)
    have c3 : ∀ o, W3.cell? ⟨wr.heap.size, o, none⟩ = wr.cell? ⟨w.heap.size, o, none⟩ := fun o => by
      rw [hW3, (plr_below _ _ _ _ _ _ _).cell (p := ⟨wr.heap.size, o, none⟩) (by show wr.heap.size < W2.heap.size; rw [Z2.out]; omega)]
      exact C2.out o
    have q1 : W3.cell? ⟨wr.heap.size, 1, none⟩ = _ := (c3 _).trans hfm.f1
    have q2 : W3.cell? ⟨wr.heap.size, 2, none⟩ = _ := (c3 _).trans hfm.f2
    have q3 : W3.cell? ⟨wr.heap.size, 3, none⟩ = _ := (c3 _).trans hfm.f3
    have q4 : W3.cell? ⟨wr.heap.size, 4, none⟩ = _ := (c3 _).trans hfm.f4
    have hp : wr.cell? ⟨w.heap.size, 0 * 5, none⟩ = some (.pointer none) := by
      rcases hfm.f0 with ⟨_, h0⟩ | ⟨h0, _⟩
      · exact h0
      · cases h0
    have q0 : W3.cell? ⟨wr.heap.size, 0, none⟩ = some (.pointer none) := (c3 _).trans hp
    have E4 := ESt.make (a := a) (b := b) (s := s) (nx := FD.zero.nx) (en := FD.zero.en) plr_size hst b2 Z2.out C2.out hp
    have bf := bf_cells (Z := Ybaf.zeroCells43) (a := a) (b := b) (s := s) (.cells #[.pointer none, .int .i64 FD.zero.nx, .int .i64 FD.zero.en, .string FD.zero.ar, .string FD.zero.av] 32) hst b2 Z2.out
    rw [← hW3] at E4 bf
    have tp : (W3.alloc (.cells #[.pointer none, .int .i64 FD.zero.nx, .int .i64 FD.zero.en, .string FD.zero.ar, .string FD.zero.av] 32)).tape = w.tape := E4.below.tape
    have f0 := (bf _).trans hp
    clear hfm c3 hp hW3 hcp i0 i1 i2 hmm b2 hst bf
    go_wp2_with fail
    all_goals
      refine (leave_nil F _ _ 0 (0 + 1) nm _ (by rw [tp]; exact hF) (by omega) E4.p5 f0).mono ?_
      rintro e w5 ⟨ad, rfl, hb5⟩
      have E5 := E4.later hb5
      clear hb5 E4 f0 tp q0 q1 q2 q3 q4
      have p1 := E5.p1
      have p5 := E5.p5
      have t0 := E5.t0
      have hmap := E5.map
      have lkS : ∀ W, MapAt W W2.heap.size (.map (ents a b s) 3) → _ := fun W h => lookStat a b s W2.heap.size W h
      have lkA : ∀ W, MapAt W W2.heap.size (.map (ents a b s) 3) → _ := fun W h => lookArgs a b s W2.heap.size W h
      have lkV : ∀ W, MapAt W W2.heap.size (.map (ents a b s) 3) → _ := fun W h => lookArgv a b s W2.heap.size W h
      have lkL : ∀ W, MapAt W W2.heap.size (.map (ents a b s) 3) → _ := fun W h => lenMap a b s W2.heap.size W h
      go_wp2_with fail
      clear p1 p5 t0 hmap lkL lkS
      go_loopg [23] (0 + 1) (fun g s23 wx => ∃ i : Nat, i + g = (0 + 1) ∧ s23 = .int .i64 i ∧ ESt w wx (W2.heap.size + 1) W2.heap.size w.heap.size wr.heap.size W3.heap.size (0 + 1) (0 + 1) a b s FD.zero none)
      case atStart => exact ⟨0, by omega, rfl, E5⟩
      case round =>
        clear E5
        obtain ⟨i, hi, rfl, E6⟩ := hrel
        have HI : Hid (i + gk = (0 + 1)) := hi
        clear hi
        have p1 := E6.p1
        have p5 := E6.p5
        by_cases hlt : i < (0 + 1)
        · have hii : (i : Int) < 1 := by omega
          have hi0 : (0 : Int) ≤ i := by omega
          obtain ⟨q, nx, en, ar, av, h0, h1, h2, h3, h4, k0, k1, k2, k3, k4⟩ := E6.same i (by omega)
          have hnq := neq_same q nx en ar av
          go_wp2_with fail
          go_quiet (fail)
          go_wp2_with fail
          go_roundg (gk - 1)
          case measure => have := HI.out; omega
          case rel => exact ⟨i + 1, by have := HI.out; omega, by go_num, E6.later (belowN (Below.refl _ _) _)⟩
        · have hii : ¬ (i : Int) < 1 := by omega
          have hmap := E6.map
          have bw := E6.below
          go_wp2_with fail
          go_ret
          exact ⟨rfl, bw⟩
end Go.Proofs.YbulkceiwFmt
