import Derived.Test.YbulkcejyH1
import Derived.Test.YbulkcejyDraw
import Derived.StillTailTactics
import Derived.BigQuiet
import Derived.Deep.QuietTactic
namespace Go.Proofs.Ybulkcejy
open Go.RowKit
set_option linter.unusedVariables false
attribute [local go_sem] Oper.semAt_some
attribute [local go_sem ↓] Go.wp_at_zero Go.wp_at_succ
theorem Yba.info27 : (Yba.prog.info? 27).map (fun i => (i.zero, i.size, i.bytes)) = some (some (.slice none 0 0), 1, 24) := by kernel_rfl
theorem Yba.info9 : (Yba.prog.info? 9).map (fun i => (i.zero, i.size, i.bytes)) = some (some (.string ⟨#[]⟩), 1, 16) := by kernel_rfl
theorem Yba.info39 : (Yba.prog.info? 39).map (fun i => (i.zero, i.size, i.bytes)) = some (some (.agg #[.int .i64 0, .int .i64 0]), 2, 16) := by kernel_rfl
theorem make26 (N : Nat) (hN : N ≤ 100) (w : World) : (Instr.makeSlice 26 (.int .i64 (N : Int)) (.int .i64 (N : Int))).run Yba.prog w = .ok (.slice (some ⟨w.heap.size, 0, none⟩) N N) (w.alloc (.cells (madeCells #[.slice none 0 0] N) 27)) :=
  run_make_row' 26 27 _ 24 Yba.underlying26 Yba.info27 rfl _ _ N (by omega) (by omega) w
theorem make29 (N : Nat) (hN : N ≤ 100) (w : World) : (Instr.makeSlice 29 (.int .i64 (N : Int)) (.int .i64 (N : Int))).run Yba.prog w = .ok (.slice (some ⟨w.heap.size, 0, none⟩) N N) (w.alloc (.cells (madeCells #[.string ⟨#[]⟩] N) 9)) :=
  run_make_row' 29 9 _ 16 Yba.underlying29 Yba.info9 rfl _ _ N (by omega) (by omega) w
theorem merge_wp {c : Code} {P : Program} {Q : Exit → Act → World → Prop} {a : Act} {w : World} (R : Act → World → Prop) (h : c.wp P (fun e a' W' => e = .normal ∧ R a' W') a w) (k : ∀ A W, R A W → Q .normal A W) : c.wp P Q a w :=
  Code.wp_mono (by rintro e a' W' ⟨rfl, h⟩; exact k _ _ h) h
theorem new4 (W : World) (o1 o2 o3 o4 : Obj) : ((((W.alloc o1).alloc o2).alloc o3).alloc o4).heap[W.heap.size]? = some o1 ∧ ((((W.alloc o1).alloc o2).alloc o3).alloc o4).heap[W.heap.size + 1]? = some o2 ∧ ((((W.alloc o1).alloc o2).alloc o3).alloc o4).heap[W.heap.size + 1 + 1]? = some o3 ∧ ((((W.alloc o1).alloc o2).alloc o3).alloc o4).heap[W.heap.size + 1 + 1 + 1]? = some o4 := by
  have k : ∀ (V : World) (o : Obj) (i : Nat), i < V.heap.size → (V.alloc o).heap[i]? = V.heap[i]? := fun V o i hi => Below.heap_alloc _ _ _ hi
  have s : ∀ (V : World) (o : Obj), (V.alloc o).heap.size = V.heap.size + 1 := fun V o => World.size_alloc V o
  have n : ∀ (V : World) (o : Obj), (V.alloc o).heap[V.heap.size]? = some o := World.alloc_heap_new
  refine ⟨?_, ?_, ?_, ?_⟩
  · rw [k _ _ _ (by simp only [s]; omega), k _ _ _ (by simp only [s]; omega), k _ _ _ (by simp only [s]; omega), n]
  · rw [k _ _ _ (by simp only [s]; omega), k _ _ _ (by simp only [s]; omega), ← s W o1, n]
  · rw [k _ _ _ (by simp only [s]; omega), ← s W o1, ← s _ o2, n]
  · rw [← s W o1, ← s _ o2, ← s _ o3, n]
structure DG (n gb hb : Nat) (d : GD) : Prop where
  n : d.n = n
  gb : d.gb = gb
  hb : d.hb = hb
theorem DG.keep {n gb hb : Nat} {d : GD} (h : DG n gb hb d) (bv fv : Nat → Value) (tv : Value) : DG n gb hb { d with bv := bv, fv := fv, tv := tv } := ⟨h.n, h.gb, h.hb⟩
structure TSI (n : Nat) (ts : List (Nat × Nat)) : Prop where
  nd : ts.Nodup
  lt : ∀ t, t ∈ ts → t.1 < n ∧ t.2 < n ∧ t.1 ≠ t.2
theorem TSI.nil (n : Nat) : TSI n [] := ⟨List.nodup_nil, fun t h => by cases h⟩
theorem TSI.snoc {n : Nat} {ts : List (Nat × Nat)} (h : TSI n ts) {x y : Nat} (hx : x < n) (hy : y < n) (hxy : x ≠ y) (hh : hasB ts x y = false) : TSI n (ts ++ [(x, y)]) := by
  refine ⟨?_, fun t ht => ?_⟩
  · rw [List.nodup_append]
    refine ⟨h.nd, by simp, fun a ha b hb e => ?_⟩
    simp at hb
    rw [e, hb] at ha
    rw [hasB_mem.2 ha] at hh
    cases hh
  · rcases List.mem_append.1 ht with q | q
    · exact h.lt t q
    · simp at q
      rw [q]
      exact ⟨hx, hy, hxy⟩
theorem TSI.len {n : Nat} {ts : List (Nat × Nat)} (h : TSI n ts) (hn : n ≤ 10) : ts.length ≤ 200 := by
  have h1 : (ts.map fun t => t.1 * 10 + t.2).Nodup := by
    unfold List.Nodup
    rw [List.pairwise_map]
    refine h.nd.imp_of_mem (fun {a b} ha hb hne e => hne ?_)
    have q1 := h.lt a ha
    have q2 := h.lt b hb
    exact Prod.ext (by omega) (by omega)
  have h2 := nodup_le 200 _ h1 (fun w hw => by
    obtain ⟨t, ht, rfl⟩ := List.mem_map.1 hw
    have := h.lt t ht
    omega)
  rw [List.length_map] at h2
  exact h2
theorem lstB_le (ts : List (Nat × Nat)) (x : Nat) : (lstB ts x).length ≤ ts.length := by
  unfold lstB
  exact Nat.le_trans (List.length_filter_le _ _) (by simp)
theorem cells_new2 {W : World} {n : Nat} (h : W.heap.size = n) (v0 v1 : Value) (t : TypeId) : ∀ j u, [v0, v1][j]? = some u → (W.alloc (.cells #[v0, v1] t)).cell? ((⟨n, 0, none⟩ : Addr).add j) = some u := by
  subst h
  intro j u hu
  rcases j with _ | _ | j
  · cases hu; rw [show (⟨W.heap.size, 0, none⟩ : Addr).add 0 = ⟨W.heap.size, 0, none⟩ from rfl]; go_simp
  · cases hu; rw [show (⟨W.heap.size, 0, none⟩ : Addr).add (0 + 1) = ⟨W.heap.size, 1, none⟩ from rfl]; go_simp
  · cases hu
/-- What the law is handed. -/
def TsAt (W : World) (a0 : Option Addr) (len : Nat) (f g : Nat → Nat) : Prop := ∀ j, j < len → ∃ b off, a0 = some ⟨b, off, none⟩ ∧ W.cell? ⟨b, off + j * 2, none⟩ = some (.int .u8 (f j : Int)) ∧ W.cell? ⟨b, off + j * 2 + 1, none⟩ = some (.int .u8 (g j : Int)) ∧ f j < 256 ∧ g j < 256
theorem TsAt.below {W W' : World} {a0 : Option Addr} {len : Nat} {f g : Nat → Nat} (h : TsAt W a0 len f g) (hb : Below W.heap.size W W') : TsAt W' a0 len f g := fun j hj => by
  obtain ⟨b, off, e, h0, h1, h2, h3⟩ := h j hj
  have hl := World.block_lt_of_cell? W _ h0
  exact ⟨b, off, e, (hb.cell (p := ⟨b, off + j * 2, none⟩) hl).trans h0, (hb.cell (p := ⟨b, off + j * 2 + 1, none⟩) hl).trans h1, h2, h3⟩

set_option maxRecDepth 100000 in
set_option maxHeartbeats 8000000 in
theorem law_calls (W : World) (nn : Nat) (hnn : nn < 256) (a0 : Option Addr) (len cap : Nat) (f g : Nat → Nat) (hlen : len ≤ 4096) (hT : TsAt W a0 len f g) :
    Calls Yba.prog 4 #[.int .u8 (nn : Int), .slice a0 len cap] W fun e W' => e = .returned (.bool true) ∧ Below W.heap.size W W' := by
  have hleni : ¬ (4096 : Int) < (len : Int) := by omega
  obtain ⟨n, hne⟩ : ∃ n, 1 + nn % 10 = n := ⟨_, rfl⟩
  have hn1 : 1 ≤ n := by omega
  have hn : n ≤ 10 := by omega
  have hnm : (1 : Int) + (nn : Int) % 10 = (n : Int) := by omega
  have m26 := make26 n (by omega)
  have m27 := make27 n (by omega)
  have m29 := make29 n (by omega)
  have m30 := make30 n (by omega)
  have hn0 : (0 : Int) ≤ (n : Int) := by omega
  have hn9 : (n : Int) ≤ 10 := by omega
  go_enter Yba.func4, Yba.ntmps4
  go_wp2_with fail
  obtain ⟨blk0, cont0, cp0, hH0⟩ := H1.start (W := W) hn
  go_loopg [29] n (fun g s29 wr => ∃ (i : Nat) (hr : Nat → Nat), i + g = n ∧ s29 = .int .i64 (i : Int) ∧ (∃ blk cont cp, H1 W.heap.size wr n W.heap.size i hr blk cont cp) ∧ Below W.heap.size W wr)
  case atStart => exact ⟨0, _, by omega, rfl, ⟨_, _, _, hH0⟩, (Below.refl _ _).alloc (Nat.le_refl _) _⟩
  case round =>
    clear hH0
    obtain ⟨i, hr, hig, rfl, ⟨blk, cont, cp, hH⟩, hbw⟩ := hrel
    have HG : Hid (i + gk = n) := hig
    have hil : i ≤ n := by omega
    clear hig
    by_cases hi : i < n
    · have hii : (i : Int) < (n : Int) := by omega
      have c3 : wr.cell? ⟨W.heap.size, i, none⟩ = some (.slice none 0 0) := hH.hp.read hH.b3 (by rw [hH.k3]; simp [hi])
      have z3 := hH.hp.frozen hH.b3 i
      have l3 := (hH.hp.lt hH.b3).2
      go_wp2_with fail
      go_roundg (gk - 1)
      case measure =>
        have := HG.out
        omega
      case rel =>
        have := HG.out
        exact ⟨i + 1, _, by omega, by push_cast; rfl, (hH.step hi).1, hbw.trans (hH.step hi).2⟩
    · have hii : ¬ (i : Int) < (n : Int) := by omega
      obtain rfl : n = i := by omega
      clear HG
      go_wp2_with fail
      refine abs_act ?_
      intro A0 hA0
      have HA : Hid (A0 = _) := hA0
      refine merge_wp (fun A W' => ∃ gb ub bb fb, A = { tmps := (((((((((A0.tmps.setIfInBounds 38 (.int .i64 (n : Int))).setIfInBounds 39 (.slice (some ⟨ub, 0, none⟩) n n)).setIfInBounds 40 (.int .i64 (n : Int))).setIfInBounds 41 (.slice (some ⟨bb, 0, none⟩) n n)).setIfInBounds 42 (.int .i64 (n : Int))).setIfInBounds 43 (.slice (some ⟨fb, 0, none⟩) n n)).setIfInBounds 44 (.agg #[.slice (some ⟨ub, 0, none⟩) n n, .map none, .slice none 0 0, .slice (some ⟨bb, 0, none⟩) n n, .slice (some ⟨fb, 0, none⟩) n n, .slice none 0 0])).setIfInBounds 45 (.pointer (some ⟨gb, 0, none⟩))).setIfInBounds 8 (.pointer (some ⟨gb, 0, none⟩))), defers := [] } ∧ NewG wr W' n (.map none) gb ub bb fb) ?regR ?regK
      case regR =>
        rw [hA0]
        clear hA0
        go_region_held3 (fun _ => True) (trivial) (fail)
        all_goals (refine ⟨rfl, _, _, _, _, rfl, ⟨((((((Below.refl _ _).alloc (Nat.le_refl _) _).alloc (by simp) _).alloc (by simp; omega) _).alloc (by simp; omega) _)).drew, (new4 wr _ _ _ _).2.2.2, ?_, ?_, ?_, ?_⟩⟩)
        all_goals first | exact (new4 wr _ _ _ _).1 | exact (new4 wr _ _ _ _).2.1 | exact (new4 wr _ _ _ _).2.2.1 | (refine ⟨?_, ?_, ?_⟩ <;> omega)
      case regK =>
        rintro A W3 ⟨gb, ub, bb, fb, rfl, hnew⟩
        rw [HA.out]
        simp only [List.setIfInBounds_toArray, List.set_cons_zero, List.set_cons_succ]
        clear hA0 HA m26 m29 m30
        obtain ⟨blk3, cont3, cp3, h3⟩ := hnew.lf hH
        have hb3' : Below W.heap.size W W3 := hbw.trans (hnew.bel.mono hbw.size)
        clear hnew hH hbw
        obtain ⟨i3, hi3, hz3, hs3, hb3⟩ := info_parts Yba.info3
        obtain ⟨i39, hi39, hz39, hs39, hb39⟩ := info_parts Yba.info39
        go_wp2_with fail
        go_loopg [48] len (fun g s48 wq => ∃ (d : GD) (ts : List (Nat × Nat)) (j : Nat), j + g = len ∧ s48 = .int .i64 (j : Int) ∧ (∃ blk cont cp, LF W.heap.size wq d ts ts ts ts blk cont cp) ∧ DG n gb W.heap.size d ∧ TSI n ts ∧ Below W.heap.size W wq)
        case atStart => exact ⟨_, [], 0, by omega, rfl, ⟨_, _, _, h3⟩, ⟨rfl, rfl, rfl⟩, TSI.nil n, hb3'⟩
        case round =>
          clear h3 hb3'
          obtain ⟨d, ts, j, hjg, rfl, ⟨blk, cont, cp, h⟩, hDG, hTS, hbw⟩ := hrel
          have HJ : Hid (j + gk = len) := hjg
          have hjl : j ≤ len := by omega
          clear hjg
          have hdn := hDG.n
          have hdg := hDG.gb
          have hdh := hDG.hb
          subst hdg
          subst hdn
          have hts2 := hTS.len hn
          by_cases hj : j < len
          · have hji : (j : Int) < (len : Int) := by omega
            obtain ⟨b, off, ha0, c0, c1, hf, hg⟩ := hT.below hbw j hj
            subst ha0
            obtain ⟨p, hp⟩ : ∃ p, f j = p := ⟨_, rfl⟩
            obtain ⟨q, hq⟩ : ∃ q, g j = q := ⟨_, rfl⟩
            rw [hp] at c0 hf
            rw [hq] at c1 hg
            clear hp hq
            obtain ⟨x, hxe⟩ : ∃ x, p % d.n = x := ⟨_, rfl⟩
            obtain ⟨y, hye⟩ : ∃ y, q % d.n = y := ⟨_, rfl⟩
            have hx : x < d.n := by rw [← hxe]; exact Nat.mod_lt _ (by omega)
            have hy : y < d.n := by rw [← hye]; exact Nat.mod_lt _ (by omega)
            have hxm : (p : Int) % (d.n : Int) = (x : Int) := by rw [← hxe]; push_cast; rfl
            have hym : (q : Int) % (d.n : Int) = (y : Int) := by rw [← hye]; push_cast; rfl
            clear hxe hye
            have hxi : (x : Int) < (d.n : Int) := by omega
            have hyi : (y : Int) < (d.n : Int) := by omega
            have hr1 : wr.cell? ⟨W.heap.size, x, none⟩ = some (.slice (some ⟨d.hr x, 0, none⟩) d.n d.n) := by have := h.hasRow hx; rw [hdh] at this; exact this
            have hr2 := h.hasAt hx hy
            have hr3 := h.hasFz hx y
            have hl1 : W.heap.size < wr.heap.size := by have := (h.hp.lt h.b3).2; rw [hdh] at this; exact this
            have hl2 : d.hr x < wr.heap.size := (h.hp.lt (h.kh x hx).1).2
            by_cases hxy : x = y
            · subst hxy
              go_wp2_with fail
              go_roundg (gk - 1)
              case measure =>
                have := HJ.out
                omega
              case rel =>
                have := HJ.out
                exact ⟨d, ts, j + 1, by omega, by push_cast; rfl, ⟨_, _, _, h.grow ((Below.refl _ _).alloc (Nat.le_refl _) _)⟩, hDG, hTS, hbw.trans ((Below.refl _ _).alloc h.LW _)⟩
            · have hxyb : ((x : Int) == (y : Int)) = false := beq_eq_false_iff_ne.2 (by omega)
              cases hhas : hasB ts x y
              · rw [hhas] at hr2
                have fT0 : ∃ a c, d.tv = .slice a ts.length c := h.s4.form
                obtain ⟨tl, htl⟩ : ∃ l, ts.length = l := ⟨_, rfl⟩
                have HTL : Hid (ts.length = tl) := htl
                clear fT0
                obtain ⟨tta0, ttc0, htv0⟩ := h.s4.form
                rw [htl] at htv0
                have fT0 : wr.cell? ⟨d.gb, 2, none⟩ = some (.slice tta0 tl ttc0) := by rw [← htv0]; exact h.field (i := 2) rfl
                have hg0 : d.gb < wr.heap.size := (h.hp.lt h.b0).2
                have hng : d.hr x ≠ d.gb := fun e => by
                  have := h.hp.inj (50 + x) 0 _ (h.kh x hx).1 (by rw [e]; exact h.b0)
                  omega
                have hng' : d.gb ≠ d.hr x := Ne.symm hng
                have hnh : d.hr x ≠ W.heap.size := fun e => by
                  have := h.hp.inj (50 + x) 3 _ (h.kh x hx).1 (by rw [e, ← hdh]; exact h.b3)
                  omega
                have hnh' : W.heap.size ≠ d.hr x := Ne.symm hnh
                obtain ⟨⟨contm, hm⟩, hbm⟩ := h.mark hx hy
                have htl2 : tl ≤ 200 := by omega
                clear htl
                go_wp2_with fail
                try simp only [hxm, hym]
                refine abs_world (fun W' => (∃ blk cont cp, LF W.heap.size W' d ts ts (ts ++ [(x, y)]) ts blk cont cp) ∧ Below W.heap.size W W') ⟨⟨_, _, _, hm.grow ((Below.refl _ _).alloc (Nat.le_refl _) _)⟩, hbw.trans (hbm.trans ((Below.refl _ _).alloc hm.LW _))⟩ (fun W4 ⟨⟨blk4, cont4, cp4, h4⟩, hb4⟩ => ?_)
                clear hm hbm h fT0 hr1 hr2 hr3 c0 c1
                obtain ⟨oaA, ocA, hovA⟩ := (h4.kb x hx).1.form
                obtain ⟨olA, holA⟩ : ∃ l, (lstB ts x).length = l := ⟨_, rfl⟩
                have holbA : olA ≤ 200 := by rw [← holA]; exact Nat.le_trans (lstB_le ts x) hts2
                rw [holA] at hovA
                have f3A : W4.cell? ⟨d.gb, 3, none⟩ = some (.slice (some ⟨d.bb, 0, none⟩) d.n d.n) := h4.field (i := 3) rfl
                have o1A : W4.cell? ⟨d.bb, x, none⟩ = some (.slice oaA olA ocA) := by rw [← hovA]; exact h4.hp.read h4.b1 (by rw [h4.k1]; simp [hx])
                have z1A := h4.hp.frozen h4.b1 x
                have lt0A : d.gb < W4.heap.size := (h4.hp.lt h4.b0).2
                have lt1A : d.bb < W4.heap.size := (h4.hp.lt h4.b1).2
                have ne0A : some d.gb ≠ (Value.slice oaA olA ocA).ownBlock := by rw [← hovA]; exact (h4.kb x hx).1.ne h4.hp h4.b0 (by omega)
                have ne1A : some (d.bb) ≠ (Value.slice oaA olA ocA).ownBlock := by rw [← hovA]; exact (h4.kb x hx).1.ne h4.hp h4.b1 (by omega)
                have hOA : W4.ownsRow W.heap.size 3 1 (.slice oaA olA ocA) olA ((lstB ts x).map nv) := by rw [← hovA, ← holA]; exact h4.ownsBy hx
                refine wp_draw 13 3 (by kernel_rfl) (by kernel_rfl) (fun w' => w'.cell? ⟨d.gb, 3, none⟩ = some (.slice (some ⟨d.bb, 0, none⟩) d.n d.n) ∧ w'.cell? ⟨d.bb, x, none⟩ = some (.slice oaA olA ocA)) (by go_simp) (fun ops => ?_)
                simp only [List.take_succ_cons, List.take_zero, List.drop_succ_cons, List.drop_zero, Nat.reduceAdd]
                repeat (refine wpHeld_step ?_ (by rfl) ?_ ?_; rotate_left; focus (intro w hSw; (try dsimp only at hSw); go_simp; (try with_reducible rfl); done); try simp only [Act.put, List.setIfInBounds_toArray, List.set_cons_zero, List.set_cons_succ])
                refine wpHeld_nil ?_
                refine wpMid_step (by rfl) (fun K hK => ?_)
                go_simp
                refine hK.out _ _ (by go_simp) (fun hHeld => ?_)
                clear hK K
                refine wpMid_step (by rfl) (fun K hK => ?_)
                refine wp_append_lies _ _ _ 37 (by rfl) W.heap.size 3 i3 (.int .i64 0) 1 8 Yba.underlying37 hi3 hz3 hs3 hb3 rfl (by omega) (.slice oaA olA ocA) olA _ (by rfl) (ownsRow_below hOA (Below.drew (Below.alloc (Below.refl _ _) (by simp) _))) ⟨W4.heap.size, 0, none⟩ 1 1 [.int .i64 (tl : Int)] (by rfl) (by rfl) (cells_new1 rfl _ _) (by simp [Value.oneCell']) (by omega) (by unfold maxLen; omega) (by omega) (by have := h4.LW; simp; omega) _ rfl (fun gg cap w1 hown hgrow hat hlt9 => ?_)
                have g0 : w1.cell? ⟨d.gb, 3, none⟩ = some (.slice (some ⟨d.bb, 0, none⟩) d.n d.n) := hgrow.cell (by go_simp) ne0A
                have g1 : w1.cell? ⟨d.bb, x, none⟩ = some (.slice oaA olA ocA) := hgrow.cell (by go_simp) ne1A
                have g4 : w1.frozen? ⟨d.bb, x, none⟩ = false := (World.frozen?_of_block (a := ⟨d.bb, x, none⟩) (hgrow.block (d.bb) (by simp; omega) ne1A)).trans (by go_simp)
                refine hK.out _ _ ⟨g0, g1⟩ (fun hHeld => ?_)
                clear hK K
                simp only [Act.put, List.setIfInBounds_toArray, List.set_cons_zero, List.set_cons_succ]
                refine wpMid_step (by rfl) (fun K hK => ?_)
                go_simp
                refine hK.out _ _ ⟨g0, g1⟩ (fun hHeld => ?_)
                clear hK K
                refine wpMid_nil ?_
                go_wp2_with fail
                refine NoPanic.normal ?_
                have hBa : Below W4.heap.size W4 ((W4.alloc (Obj.cells #[.int .i64 (tl : Int)] 3)).drew) := Below.drew (Below.alloc (Below.refl _ _) (Nat.le_refl _) _)
                have hgv : ((W4.alloc (Obj.cells #[.int .i64 (tl : Int)] 3)).drew).grownBy w1 (d.bv x).ownBlock := by rw [hovA]; exact hgrow
                have hav : (Value.slice (some ⟨gg, 0, none⟩) (olA + 1) cap).ownBlock = (d.bv x).ownBlock ∨ (Value.slice (some ⟨gg, 0, none⟩) (olA + 1) cap).ownBlock = some ((W4.alloc (Obj.cells #[.int .i64 (tl : Int)] 3)).drew).heap.size := by rw [hovA]; exact hat.elim (fun q => .inl q.symm) (fun q => .inr (by rw [q]; rfl))
                obtain ⟨⟨blk6, cont6, cp6, h6⟩, hb6⟩ := (h4.grow hBa).pushBy hx (y := y) (v' := .slice (some ⟨gg, 0, none⟩) (olA + 1) cap) (by rw [holA, HTL.out]; exact hown) hgv hav
                have hbA := hb4.trans ((hBa.mono h4.LW).trans hb6)
                generalize hW6 : w1.setCell ⟨d.bb, x, none⟩ (Value.slice (some ⟨gg, 0, none⟩) (olA + 1) cap) = W6 at h6 hbA
                generalize hbv6 : updF d.bv x (Value.slice (some ⟨gg, 0, none⟩) (olA + 1) cap) = bv6 at h6
                clear hgv hav hBa hb6 hown hgrow hat hlt9 g0 g1 g4 hHeld f3A o1A z1A hbv6 hOA ne0A ne1A
                obtain ⟨oaB, ocB, hovB⟩ := (h6.kf y hy).1.form
                obtain ⟨olB, holB⟩ : ∃ l, (lst ts y).length = l := ⟨_, rfl⟩
                have holbB : olB ≤ 200 := by rw [← holB]; exact Nat.le_trans (lst_le ts y) hts2
                rw [holB] at hovB
                have f3B : W6.cell? ⟨d.gb, 4, none⟩ = some (.slice (some ⟨d.fb, 0, none⟩) d.n d.n) := h6.field (i := 4) rfl
                have o1B : W6.cell? ⟨d.fb, y, none⟩ = some (.slice oaB olB ocB) := by rw [← hovB]; exact h6.hp.read h6.b2 (by rw [h6.k2]; simp [hy])
                have z1B := h6.hp.frozen h6.b2 y
                have lt0B : d.gb < W6.heap.size := (h6.hp.lt h6.b0).2
                have lt1B : d.fb < W6.heap.size := (h6.hp.lt h6.b2).2
                have ne0B : some d.gb ≠ (Value.slice oaB olB ocB).ownBlock := by rw [← hovB]; exact (h6.kf y hy).1.ne h6.hp h6.b0 (by omega)
                have ne1B : some (d.fb) ≠ (Value.slice oaB olB ocB).ownBlock := by rw [← hovB]; exact (h6.kf y hy).1.ne h6.hp h6.b2 (by omega)
                have hOB : W6.ownsRow W.heap.size 3 1 (.slice oaB olB ocB) olB ((lst ts y).map nv) := by rw [← hovB, ← holB]; exact h6.ownsOf hy
                go_wp2_with fail
                refine wp_draw 13 3 (by kernel_rfl) (by kernel_rfl) (fun w' => w'.cell? ⟨d.gb, 4, none⟩ = some (.slice (some ⟨d.fb, 0, none⟩) d.n d.n) ∧ w'.cell? ⟨d.fb, y, none⟩ = some (.slice oaB olB ocB)) (by go_simp) (fun ops => ?_)
                simp only [List.take_succ_cons, List.take_zero, List.drop_succ_cons, List.drop_zero, Nat.reduceAdd]
                repeat (refine wpHeld_step ?_ (by rfl) ?_ ?_; rotate_left; focus (intro w hSw; (try dsimp only at hSw); go_simp; (try with_reducible rfl); done); try simp only [Act.put, List.setIfInBounds_toArray, List.set_cons_zero, List.set_cons_succ])
                refine wpHeld_nil ?_
                refine wpMid_step (by rfl) (fun K hK => ?_)
                go_simp
                refine hK.out _ _ (by go_simp) (fun hHeld => ?_)
                clear hK K
                refine wpMid_step (by rfl) (fun K hK => ?_)
                refine wp_append_lies _ _ _ 37 (by rfl) W.heap.size 3 i3 (.int .i64 0) 1 8 Yba.underlying37 hi3 hz3 hs3 hb3 rfl (by omega) (.slice oaB olB ocB) olB _ (by rfl) (ownsRow_below hOB (Below.drew (Below.alloc (Below.refl _ _) (by simp) _))) ⟨W6.heap.size, 0, none⟩ 1 1 [.int .i64 (tl : Int)] (by rfl) (by rfl) (cells_new1 rfl _ _) (by simp [Value.oneCell']) (by omega) (by unfold maxLen; omega) (by omega) (by have := h6.LW; simp; omega) _ rfl (fun gg cap w1 hown hgrow hat hlt9 => ?_)
                have g0 : w1.cell? ⟨d.gb, 4, none⟩ = some (.slice (some ⟨d.fb, 0, none⟩) d.n d.n) := hgrow.cell (by go_simp) ne0B
                have g1 : w1.cell? ⟨d.fb, y, none⟩ = some (.slice oaB olB ocB) := hgrow.cell (by go_simp) ne1B
                have g4 : w1.frozen? ⟨d.fb, y, none⟩ = false := (World.frozen?_of_block (a := ⟨d.fb, y, none⟩) (hgrow.block (d.fb) (by simp; omega) ne1B)).trans (by go_simp)
                refine hK.out _ _ ⟨g0, g1⟩ (fun hHeld => ?_)
                clear hK K
                simp only [Act.put, List.setIfInBounds_toArray, List.set_cons_zero, List.set_cons_succ]
                refine wpMid_step (by rfl) (fun K hK => ?_)
                go_simp
                refine hK.out _ _ ⟨g0, g1⟩ (fun hHeld => ?_)
                clear hK K
                refine wpMid_nil ?_
                go_wp2_with fail
                refine NoPanic.normal ?_
                have hBb : Below W6.heap.size W6 ((W6.alloc (Obj.cells #[.int .i64 (tl : Int)] 3)).drew) := Below.drew (Below.alloc (Below.refl _ _) (Nat.le_refl _) _)
                have hgv : ((W6.alloc (Obj.cells #[.int .i64 (tl : Int)] 3)).drew).grownBy w1 (d.fv y).ownBlock := by rw [hovB]; exact hgrow
                have hav : (Value.slice (some ⟨gg, 0, none⟩) (olB + 1) cap).ownBlock = (d.fv y).ownBlock ∨ (Value.slice (some ⟨gg, 0, none⟩) (olB + 1) cap).ownBlock = some ((W6.alloc (Obj.cells #[.int .i64 (tl : Int)] 3)).drew).heap.size := by rw [hovB]; exact hat.elim (fun q => .inl q.symm) (fun q => .inr (by rw [q]; rfl))
                obtain ⟨⟨blk8, cont8, cp8, h8⟩, hb8⟩ := (h6.grow hBb).pushOf hy (y := x) (v' := .slice (some ⟨gg, 0, none⟩) (olB + 1) cap) (by rw [holB, HTL.out]; exact hown) hgv hav
                have hbB := hbA.trans ((hBb.mono h6.LW).trans hb8)
                generalize hW8 : w1.setCell ⟨d.fb, y, none⟩ (Value.slice (some ⟨gg, 0, none⟩) (olB + 1) cap) = W8 at h8 hbB
                generalize hfv8 : updF d.fv y (Value.slice (some ⟨gg, 0, none⟩) (olB + 1) cap) = fv8 at h8
                clear hgv hav hBb hb8 hown hgrow hat hlt9 g0 g1 g4 hHeld f3B o1B z1B hfv8 hOB ne0B ne1B
                obtain ⟨tta, ttc, htv⟩ : ∃ a c, d.tv = .slice a ts.length c := h8.s4.form
                rw [HTL.out] at htv
                have fT : W8.cell? ⟨d.gb, 2, none⟩ = some (.slice tta tl ttc) := by rw [← htv]; exact h8.field (i := 2) rfl
                have zT : W8.frozen? ⟨d.gb, 2, none⟩ = false := h8.hp.frozen h8.b0 2
                have neT : some d.gb ≠ (Value.slice tta tl ttc).ownBlock := by rw [← htv]; exact h8.s4.ne h8.hp h8.b0 (by omega)
                have hOT : W8.ownsRow W.heap.size 39 2 (.slice tta tl ttc) tl (flatT ts) := by rw [← htv, ← HTL.out]; exact h8.ownsT
                have ltT : d.gb < W8.heap.size := (h8.hp.lt h8.b0).2
                have hBT : Below W8.heap.size W8 (W8.alloc (Obj.cells #[.int .i64 (x : Int), .int .i64 (y : Int)] 39)) := (Below.refl _ _).alloc (Nat.le_refl _) _
                go_wp2_with (at_builtin; refine wpList_append_lies _ rfl _ _ 32 rfl W.heap.size 39 i39 (.agg #[.int .i64 0, .int .i64 0]) 2 16 Yba.underlying32 hi39 hz39 hs39 hb39 rfl (by omega) (.slice tta tl ttc) tl _ rfl (ownsRow_below hOT hBT) ⟨W8.heap.size, 0, none⟩ 1 1 [.int .i64 (x : Int), .int .i64 (y : Int)] rfl rfl (cells_new2 (by simp) _ _ _) (by simp [Value.oneCell']) (by omega) (by unfold maxLen; omega) (by omega) (by have := h8.LW; simp; omega) _ rfl ?_; intro gt capt wt hownt hgrowt hatt hltt; have t0 : wt.cell? ⟨d.gb, 2, none⟩ = some (.slice tta tl ttc) := hgrowt.cell (by go_simp) neT; have t4 : wt.frozen? ⟨d.gb, 2, none⟩ = false := (World.frozen?_of_block (a := ⟨d.gb, 2, none⟩) (hgrowt.block d.gb (by simp; omega) neT)).trans (by go_simp))
                have hgt : (W8.alloc (Obj.cells #[.int .i64 (x : Int), .int .i64 (y : Int)] 39)).grownBy wt d.tv.ownBlock := by rw [htv]; exact hgrowt
                have hatt' : (Value.slice (some ⟨gt, 0, none⟩) (tl + 1) capt).ownBlock = d.tv.ownBlock ∨ (Value.slice (some ⟨gt, 0, none⟩) (tl + 1) capt).ownBlock = some (W8.alloc (Obj.cells #[.int .i64 (x : Int), .int .i64 (y : Int)] 39)).heap.size := by rw [htv]; exact hatt.elim (fun q => .inl q.symm) (fun q => .inr (by rw [q]; rfl))
                obtain ⟨⟨blk9, cont9, cp9, h9⟩, hb9⟩ := (h8.grow hBT).pushT (x := x) (y := y) (v' := .slice (some ⟨gt, 0, none⟩) (tl + 1) capt) (by rw [HTL.out]; exact hownt) hgt hatt'
                go_roundg (gk - 1)
                case measure =>
                  have := HJ.out
                  omega
                case rel =>
                  have := HJ.out
                  exact ⟨_, ts ++ [(x, y)], j + 1, by omega, by push_cast; rfl, ⟨_, _, _, h9⟩, hDG.keep _ _ _, TSI.snoc hTS hx hy hxy hhas, hbB.trans ((hBT.mono h8.LW).trans hb9)⟩
              · rw [hhas] at hr2
                go_wp2_with fail
                go_roundg (gk - 1)
                case measure =>
                  have := HJ.out
                  omega
                case rel =>
                  have := HJ.out
                  exact ⟨d, ts, j + 1, by omega, by push_cast; rfl, ⟨_, _, _, h.grow ((Below.refl _ _).alloc (Nat.le_refl _) _)⟩, hDG, hTS, hbw.trans ((Below.refl _ _).alloc h.LW _)⟩
          · have hji : ¬ (j : Int) < (len : Int) := by omega
            obtain rfl : len = j := by omega
            clear HJ
            obtain ⟨ta, tbk, tc, htv, hGr⟩ := h.graph
            have f2 := hGr.t
            have f0 := hGr.u
            obtain ⟨tl, htl⟩ : ∃ l, ts.length = l := ⟨_, rfl⟩
            have HTL : Hid (ts.length = tl) := htl
            rw [htl] at f2 hts2
            clear htl
            go_wp2_with fail
            refine (diag_calls wr d.gb d.n ts d.ua d.uc ta tbk tc d.fb hGr hn1 hn hTS.nd hTS.lt (by rw [HTL.out]; exact hts2)).mono ?_
            rintro e W5 ⟨hh, rfl, hIS, hb5⟩
            have h5 := h.grow hb5
            have hG5 := hGr.below hb5
            have hbw5 := hbw.trans (hb5.mono h.LW)
            clear f0 f2 hGr h
            have f2 := hG5.t
            have f0 := hG5.u
            rw [HTL.out] at f2
            go_wp2_with fail
            go_loopg [158] tl (fun g s158 wq => ∃ k : Nat, k + g = tl ∧ s158 = .int .i64 (k : Int) ∧ Below W5.heap.size W5 wq)
            case atStart => exact ⟨0, by omega, rfl, Below.refl _ _⟩
            case round =>
              obtain ⟨k, hkg, rfl, hbq⟩ := hrel
              have HK : Hid (k + gk = tl) := hkg
              have hkl : k ≤ tl := by omega
              clear hkg f0 f2
              have h6 := h5.grow hbq
              by_cases hk : k < tl
              · have hki : (k : Int) < (tl : Int) := by omega
                obtain ⟨hta, t0, t1⟩ := hG5.tk k (by rw [HTL.out]; exact hk)
                subst hta
                obtain ⟨_, htblt, _⟩ := hG5.lt
                have hs5 := hb5.size
                have t0' := (hbq.cell (p := ⟨tbk, k * 2, none⟩) (show tbk < W5.heap.size by omega)).trans t0
                have t1' := (hbq.cell (p := ⟨tbk, k * 2 + 1, none⟩) (show tbk < W5.heap.size by omega)).trans t1
                clear t0 t1
                obtain ⟨x, hxe⟩ : ∃ x, (ts.getD k (0, 0)).1 = x := ⟨_, rfl⟩
                obtain ⟨y, hye⟩ : ∃ y, (ts.getD k (0, 0)).2 = y := ⟨_, rfl⟩
                have hmem := getD_in (ts := ts) (k := k) (by rw [HTL.out]; exact hk)
                have hxy := hTS.lt _ hmem
                have hhas : hasB ts x y = true := hasB_mem.2 (by rw [← hxe, ← hye]; exact hmem)
                rw [hxe] at t0' hxy
                rw [hye] at t1' hxy
                obtain ⟨hx, hy, _⟩ := hxy
                clear hxe hye hmem
                go_wp2_with fail
                refine abs_world (fun W' => (∃ blk cont cp, LF W.heap.size W' d ts ts ts ts blk cont cp) ∧ W'.cell? ⟨wr.heap.size, 0, none⟩ = some (.int .i64 (x : Int)) ∧ W'.cell? ⟨wr.heap.size, 1, none⟩ = some (.int .i64 (y : Int)) ∧ Below W5.heap.size W5 W') ⟨⟨_, _, _, h6.grow ((Below.refl _ _).alloc (Nat.le_refl _) _)⟩, by go_simp, by go_simp, hbq.trans ((Below.refl _ _).alloc hbq.size _)⟩ (fun W7 ⟨⟨blk7, cont7, cp7, h7⟩, c0, c1, hb7⟩ => ?_)
                have hr1 : W7.cell? ⟨W.heap.size, x, none⟩ = some (.slice (some ⟨d.hr x, 0, none⟩) d.n d.n) := by have := h7.hasRow hx; rw [hdh] at this; exact this
                have hr2 : W7.cell? ⟨d.hr x, y, none⟩ = some (.bool true) := by rw [← hhas]; exact h7.hasAt hx hy
                have hxi : (x : Int) < (d.n : Int) := by omega
                have hyi : (y : Int) < (d.n : Int) := by omega
                clear t0' t1'
                go_quiet (fail)
                go_wp2_with fail
                go_roundg (gk - 1)
                case measure =>
                  have := HK.out
                  omega
                case rel =>
                  have := HK.out
                  exact ⟨k + 1, by omega, by push_cast; rfl, hb7.trans (Below_drewN (Below.refl _ _) _)⟩
              · have hki : ¬ (k : Int) < (tl : Int) := by omega
                obtain rfl : tl = k := by omega
                have hG6 := hG5.below (hbq.mono hb5.size)
                have f2 := hG6.t
                rw [HTL.out] at f2
                have hs6 := hbq.size
                have hs5 := hb5.size
                go_wp2_with fail
                have hM : Calls Yba.prog 7 #[.int .i64 (d.n : Int), .slice ta tl tc] wr (ModOut wr d.n ts) := by
                  have := model_calls wr d.n ts ta tbk tc (by have := hG6.lt.2.1; omega) hG6.tk hn1 hn (fun t h => ⟨(hTS.lt t h).1, (hTS.lt t h).2.1⟩) (by rw [HTL.out]; exact hts2)
                  rw [HTL.out] at this
                  exact this
                refine hM.mono ?_
                rintro e W9 ⟨h2, rfl, hIS2, hb9⟩
                have eh : hh = h2 := by
                  have := IsH_unique hIS hIS2
                  omega
                subst eh
                go_wp2_with fail
                go_ret
                refine ⟨?_, hbw5.trans ((hbq.mono hbw5.size).trans (hb9.mono (Nat.le_trans hbw5.size hbq.size)))⟩
                simp
end Go.Proofs.Ybulkcejy
