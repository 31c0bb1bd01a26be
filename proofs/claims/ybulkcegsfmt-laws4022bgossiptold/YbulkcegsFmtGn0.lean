import Derived.Test.YbulkcegsFmtGo
import Derived.Deep.RegionHeld3
import Derived.Deep.DrawnRows
import Derived.Deep.LoopGhost
import Derived.Maps.AppendAt
namespace Go.Proofs.YbulkcegsFmt
open Go.RowKit Go.Shelf Go.Extern.Stop Go.Stop Go.Extern
set_option linter.unusedVariables false
attribute [local go_sem] Oper.semAt_some
attribute [local go_sem ↓] Go.wp_at_zero Go.wp_at_succ

set_option maxRecDepth 100000 in
set_option maxHeartbeats 8000000 in
theorem law_g0 (F : Interp) (gnd : Int) (gok : Bool) (a0 : Option Addr) (len cap : Nat) (md : Nat → ZM) (w : World) (hF : F.answers w.tape) (hl : len ≤ 1024) (HC : InAt w a0 len md) (hg : ErrT w) :
    Calls Ybaf.prog 4 #[.agg #[.int .u8 gnd, .bool gok, .bool false, .slice a0 len cap]] w fun e w' => e = .returned (.bool true) ∧ Below w.heap.size w w' := by
  obtain ⟨i34, hi34, hz34, hs34, hb34⟩ := info_parts Ybaf.info34
  obtain ⟨i9, hi9, hz9, hs9, hb9⟩ := info_parts Ybaf.info9
  have hl1 : (len : Int) ≤ 1024 := by omega
  obtain ⟨gx, hgx⟩ : ∃ gx, gx = decide (gnd.tmod 2 = 0) := ⟨_, rfl⟩
  have HGX : Hid (gx = decide (gnd.tmod 2 = 0)) := hgx
  have nmc : ∀ w, Calls Ybaf.prog 5 #[.int .u8 gnd] w fun e w' => e = .returned (.string (nm gx)) ∧ w' = w := by
    rw [hgx]
    exact name_calls gnd
  clear hgx
  go_enter Ybaf.func4, Ybaf.ntmps4
  go_wp2_with fail
  refine (nmc _).mono ?_
  rintro e w1 ⟨rfl, hw1⟩
  have b0 : w1.cell? ⟨w.heap.size, 0, none⟩ = some (.int .u8 gnd) := by rw [hw1]; go_simp
  have b1 : w1.cell? ⟨w.heap.size, 1, none⟩ = some (.bool gok) := by rw [hw1]; go_simp
  have b2 : w1.cell? ⟨w.heap.size, 2, none⟩ = some (.bool false) := by rw [hw1]; go_simp
  have b3 : w1.cell? ⟨w.heap.size, 3, none⟩ = some (.slice a0 len cap) := by rw [hw1]; go_simp
  have B0 : Below w.heap.size w w1 := by rw [hw1]; exact (Below.refl _ _).alloc (Nat.le_refl _) _
  have z1 : w.heap.size < w1.heap.size := by rw [hw1]; simp
  clear hw1
  have HC1 := HC.below B0
  have hg1 := hg.below B0 hg.lt
  have hF1 : F.answers w1.tape := by rw [B0.tape]; exact hF
  clear HC
  have z2 : w.heap.size < w1.heap.size + 1 := by omega
  have z3 : w.heap.size < w1.heap.size + 1 + 1 := by omega
  go_wp2_with (at_make; refine wpList_make_full _ rfl _ _ 32 rfl w1.heap.size 34 i34 _ 7 Ybaf.underlying32 hi34 hz34 hs34 .i64 .i64 _ _ len rfl rfl rfl rfl (by rw [hb34]; omega) (by unfold maxLen; omega) (by simp) ?_; intro w0 hown0 hgrow0; have L0 := G1.start (md := md) (k0 := []) ((Below.refl _ _).alloc (Nat.le_refl _) _) (World.ownsRow_lit w1 #[] 0 (Nat.le_refl _) (by unfold maxLen; omega) rfl) hown0 hgrow0; clear hown0 hgrow0; have bw0 := L0.below; have bb3 : w0.cell? ⟨w.heap.size, 3, none⟩ = some (.slice a0 len cap) := (bw0.cell (p := ⟨w.heap.size, 3, none⟩) z1).trans b3; simp only [World.size_alloc] at L0; clear bw0)
  generalize w1.heap.size + 1 = mb at L0 ⊢
  go_loopg [44, 4] len (fun g s44 s4 wr => ∃ j kv, j + g = len ∧ s44 = .int .i64 j ∧ s4 = kv ∧ G1 w1 wr mb len j j md [] kv)
  case atStart => exact ⟨0, _, by omega, rfl, rfl, L0⟩
  case round =>
    clear L0
    obtain ⟨j, kv, hj, rfl, rfl, hst⟩ := hrel
    have HJ : Hid (j + gk = len) := hj
    clear hj
    by_cases hjl : j < len
    · have hji : (j : Int) < (len : Int) := by omega
      obtain ⟨bb, off, rfl, d0, d1, d2, d3, d4, d5, d6, d7, d8, d9⟩ := (HC1 j hjl)
      have bw := hst.below
      have hbl : bb < w1.heap.size := World.block_lt_of_cell? w1 _ d0
      have k : ∀ o, wr.cell? ⟨bb, o, none⟩ = w1.cell? ⟨bb, o, none⟩ := fun o => bw.cell (p := ⟨bb, o, none⟩) hbl
      have e0 := (k _).trans d0
      have e1 := (k _).trans d1
      have e2 := (k _).trans d2
      have e3 := (k _).trans d3
      have e4 := (k _).trans d4
      have e5 := (k _).trans d5
      clear k
      unfold ZM.v at e3
      have hsw := bw.size
      have tmb := hst.mlt
      go_wp2_with fail
      refine abs_act ?_
      intro A0 hA0
      have hbt : ∀ W : World, Below wr.heap.size wr W → BytesAt W (.slice (md j).va (md j).xs.length (md j).vc) (md j).xs := fun W hW => (d6.below bw).below hW
      refine merge_wp (fun A W => ∃ v49 v50 v51 v52 v53 v54 v55 v56 v57 v58 v59 v60 v61 v62 v63 v64 v65, A = { tmps := (((((((((((((((((A0.tmps.setIfInBounds 49 v49).setIfInBounds 50 v50).setIfInBounds 51 v51).setIfInBounds 52 v52).setIfInBounds 53 v53).setIfInBounds 54 v54).setIfInBounds 55 v55).setIfInBounds 56 v56).setIfInBounds 57 v57).setIfInBounds 58 v58).setIfInBounds 59 v59).setIfInBounds 60 v60).setIfInBounds 61 v61).setIfInBounds 62 v62).setIfInBounds 63 v63).setIfInBounds 64 v64).setIfInBounds 65 v65), defers := A0.defers } ∧ G1 w1 W mb len (j + 1) j md [] u4 ∧ W.cell? ⟨wr.heap.size, 5, none⟩ = some (.bool (md j).hk) ∧ wr.heap.size + 1 ≤ W.heap.size) ?r ?s
      case r =>
        rw [hA0]
        have HA : Hid (A0 = _) := hA0
        clear hA0
        go_region_held3 (fun w' => w'.cell? ⟨wr.heap.size, 0, none⟩ = some (.int .u8 (md j).nd) ∧ w'.cell? ⟨wr.heap.size, 1, none⟩ = some (.int .u8 (md j).pr) ∧ w'.cell? ⟨wr.heap.size, 2, none⟩ = some (.int .u64 (md j).st) ∧ w'.cell? ⟨wr.heap.size, 3, none⟩ = some (.slice (md j).va (md j).xs.length (md j).vc) ∧ w'.cell? ⟨wr.heap.size, 4, none⟩ = some (.bool (md j).ok)) (go_simp)
          (first
            | (go_at_call 5; refine (name_x (md j) _).mono ?_; rintro e w' ⟨rfl, rfl⟩)
            | (go_at_call 6; refine (pname_p (md j) _).mono ?_; rintro e w' ⟨rfl, rfl⟩)
            | (go_at_call 7; refine (data_calls _ (md j).xs _ _ (hbt _ (by repeat (first | exact Below.refl _ _ | apply Below.drew | refine Below.alloc ?_ (by first | omega | (simp <;> omega)) _))) d7).mono ?_; rintro e w' ⟨g, rfl, hg7, hd7, hb7⟩; have q0 : w'.cell? ⟨wr.heap.size, 0, none⟩ = some (.int .u8 (md j).nd) := (hb7.cell (p := ⟨wr.heap.size, 0, none⟩) (by simp <;> omega)).trans (by go_simp); have q1 : w'.cell? ⟨wr.heap.size, 1, none⟩ = some (.int .u8 (md j).pr) := (hb7.cell (p := ⟨wr.heap.size, 1, none⟩) (by simp <;> omega)).trans (by go_simp); have q2 : w'.cell? ⟨wr.heap.size, 2, none⟩ = some (.int .u64 (md j).st) := (hb7.cell (p := ⟨wr.heap.size, 2, none⟩) (by simp <;> omega)).trans (by go_simp); have q3 : w'.cell? ⟨wr.heap.size, 3, none⟩ = some (.slice (md j).va (md j).xs.length (md j).vc) := (hb7.cell (p := ⟨wr.heap.size, 3, none⟩) (by simp <;> omega)).trans (by go_simp); have q4 : w'.cell? ⟨wr.heap.size, 4, none⟩ = some (.bool (md j).ok) := (hb7.cell (p := ⟨wr.heap.size, 4, none⟩) (by simp <;> omega)).trans (by go_simp); have q5 : wr.heap.size < w'.heap.size := (by have := hb7.size; simp at this; omega); have q6 : w'.cell? ⟨wr.heap.size, 5, none⟩ = some (.bool (md j).hk) := (hb7.cell (p := ⟨wr.heap.size, 5, none⟩) (by simp <;> omega)).trans (by go_simp); have hb8 : Below wr.heap.size wr w' := Below.trans (by repeat (first | exact Below.refl _ _ | apply Below.drew | refine Below.alloc ?_ (by first | omega | (simp <;> omega)) _)) (hb7.mono (by simp <;> omega)); have G7 := hst.grow hb8; have hg8 : wr.heap.size + 1 ≤ g := (by simp at hg7; omega); clear hg7 hb7; obtain ⟨⟨u0', p0⟩, f0⟩ := G7.slot hjl 0 (by omega); obtain ⟨⟨u1', p1⟩, f1⟩ := G7.slot hjl 1 (by omega); obtain ⟨⟨u2', p2⟩, f2⟩ := G7.slot hjl 2 (by omega); obtain ⟨⟨u3', p3⟩, f3⟩ := G7.slot hjl 3 (by omega); obtain ⟨⟨u4', p4⟩, f4⟩ := G7.slot hjl 4 (by omega); obtain ⟨⟨u5', p5⟩, f5⟩ := G7.slot hjl 5 (by omega); obtain ⟨⟨u6', p6⟩, f6⟩ := G7.slot hjl 6 (by omega); simp only [Nat.add_zero] at p0 f0))
        have hgm : g ≠ mb := by have := tmb.2; omega
        have hgk : u4.ownBlock ≠ some g := fun e => by have := (hst.keyed.lt g e).2; omega
        have tne : wr.heap.size ≠ mb := by have := tmb.2; omega
        have GP := G7.put hjl hd7 hgm hgk
        unfold set7 at GP
        refine ⟨rfl, _, _, _, _, _, _, _, _, _, _, _, _, _, _, _, _, _, rfl, GP, ?_, ?_⟩
        · rw [set_other (.inl tne), set_other (.inl tne), set_other (.inl tne), set_other (.inl tne), set_other (.inl tne), set_other (.inl tne), set_other (.inl tne)]
          exact q6
        · simp
          omega
      rintro A W8 ⟨v49, v50, v51, v52, v53, v54, v55, v56, v57, v58, v59, v60, v61, v62, v63, v64, v65, rfl, GP, e8, hs8⟩
      rw [hA0]
      simp only [List.setIfInBounds_toArray, List.set_cons_zero, List.set_cons_succ]
      clear hA0 hbt e0 e1 e2 e3 e4 e5 d0 d1 d2 d3 d4 d5 hst bw d6
      obtain ⟨bx, ⟨m0, -, -, -, -, -, -⟩, -, -, -⟩ := GP.done j (by omega)
      have t4 := GP.mlt.2
      have t3 : wr.heap.size < W8.heap.size := by omega
      have kl := keysOf_len md j
      have kl2 : ([] ++ keysOf md j).length ≤ j + 1 := by simp; omega
      cases hh : (md j).hk
      · go_wp2_with fail
        go_roundg (gk - 1)
        case measure =>
          have := HJ.out
          omega
        case rel =>
          have := HJ.out
          exact ⟨j + 1, u4, by omega, by go_num, rfl, GP.skip hh⟩
      · have L10 := GP.alloc (.cells #[.string (nm (md j).x)] 9)
        have s1 := GP.below.size
        go_wp2_with (at_builtin; refine wpList_append_own_at _ rfl _ _ 25 rfl w1.heap.size 9 i9 (.string ⟨#[]⟩) 1 16 Ybaf.underlying25 hi9 hz9 hs9 hb9 rfl (by omega) u4 ([] ++ keysOf md j).length (([] ++ keysOf md j).map fun x => .string (nm x)) rfl L10.keyed ⟨W8.heap.size, 0, none⟩ 1 1 [.string (nm (md j).x)] rfl rfl (cell_one_new2 (by simp) _ _) (by simp [Value.oneCell']) (by unfold maxLen; omega) (by omega) (by simp <;> omega) ?_; intro kv' w3 ho hgr hn hat)
        go_roundg (gk - 1)
        case measure =>
          have := HJ.out
          omega
        case rel =>
          have := HJ.out
          exact ⟨j + 1, kv', by omega, by go_num, rfl, L10.add hh ho hgr hat⟩

    · obtain rfl : j = len := by have := HJ.out; omega
      clear HJ hjl
      obtain ⟨ks, hKS⟩ : ∃ ks, [] ++ keysOf md j = ks := ⟨_, rfl⟩
      have HKS : Hid ([] ++ keysOf md j = ks) := hKS
      obtain ⟨a1, c1, eu, -⟩ := hst.kv_form
      rw [hKS] at eu
      clear hKS
      subst eu
      have bw := hst.below
      have hx : ∀ i, i < j → (md i).xs.length ≤ 140737488351232 := fun i hi => by
        obtain ⟨_, _, _, _, _, _, _, _, _, _, h, _⟩ := HC1 i hi
        exact h
      have g1 := cellb bw z1 b1
      have z4 : w.heap.size < wr.heap.size := by have := bw.size; omega
      clear hi34 hz34 hs34 hb34 hi9 hz9 hs9 hb9
      go_wp2_with (first
        | (go_at_call 7; refine (data0 gok _).mono ?_; rintro e W8 ⟨db, rfl, hdb, hd8, hb8⟩)
        | (go_at_call 10; refine (keys_calls _ _ _ _).mono ?_; rintro e W6 ⟨rfl, hb6, hk6, hs6⟩; obtain ⟨bf, X6⟩ := G1.toH2 (gx := gx) (pb := W8.heap.size + 1) HKS hst hl (by simp) hx hb8 hd8 (by repeat (first | exact Below.refl _ _ | apply Below.drew | refine Below.alloc ?_ (by first | omega | (simp <;> omega)) _)) (by unfold GosAt gosV; go_simp) hb6 hk6 hs6; simp only [World.size_alloc] at X6; clear hb6 hk6 hs6))
      obtain ⟨q, hq⟩ : ∃ q, q = ks.contains gx := ⟨_, rfl⟩
      have HQ : Hid (q = ks.contains gx) := hq
      clear hq
      have hF6 : F.answers W6.tape := by rw [X6.below.tape]; exact hF1
      refine (checkG F _ _ _ _ mb j db gx gok ks q HQ.out md bf hl _ (hg1.below X6.below hg1.lt) hF6 X6.plt X6.gos X6.dat X6.keys X6.gd).mono ?_
      rintro e W7 hans
      clear hst g1 hd8 hb8 hdb hx bw
      cases hap : AQ md j
      · rw [hap] at hans
        obtain ⟨⟨ad, rfl⟩, hb7⟩ : IsPlain e W6 W7 := hans
        obtain ⟨k1, k2, k3, K7⟩ := X6.tail hb7
        have x3 := cellb k2 z1 b3
        clear hb7 X6
        go_wp2_with fail
        clear x3
        go_loopg [98, 12] j (fun g s98 s12 wr2 => ∃ i, i + g = j ∧ s98 = .int .i64 i ∧ s12 = .bool (AQ md i) ∧ Below W7.heap.size W7 wr2)
        case atStart => exact ⟨0, by omega, rfl, rfl, Below.refl _ _⟩
        case round =>
          obtain ⟨i, hi, rfl, rfl, hbw⟩ := hrel
          have HJ2 : Hid (i + gk = j) := hi
          clear hi
          have k2' := k2.trans (hbw.mono k2.size)
          by_cases hi2 : i < j
          · have hii : (i : Int) < (j : Int) := by omega
            obtain ⟨bb', off', rfl, d0, d1, d2, d3, d4, d5, -, -, -, -⟩ := HC1.below k2' i hi2
            unfold ZM.v at d3
            have tb : bb' < wr.heap.size := World.block_lt_of_cell? wr _ d0
            clear HC1
            cases hpj : (md i).p
            all_goals
              go_wp2_with (go_at_call 6; refine (pname_p (md i) _).mono ?_; rintro e w' ⟨rfl, rfl⟩)
              go_roundg (gk - 1)
              case measure =>
                have := HJ2.out
                omega
              case rel =>
                have := HJ2.out
                exact ⟨i + 1, by omega, by go_num, by simp [AQ, hpj], hbw.alloc hbw.size _⟩
          · obtain rfl : i = j := by have := HJ2.out; omega
            clear HJ2
            have k1' := cellb hbw k3 k1
            have K7' := K7.below hbw
            have hg7 := hg1.below k2' hg1.lt
            have x1 := cellb k2' z1 b1
            have x3 := cellb k2' z1 b3
            have z7 : w.heap.size < wr.heap.size := by have := k2'.size; omega
            clear k1 K7 hbw k2
            go_wp2_with (first
              | (go_at_call 11; refine (KSt.calls K7' gx q HQ.out).mono ?_; rintro e w' ⟨rfl, rfl⟩)
              | (go_at_call 13; refine (is_plain _ _ _ _ hg7).mono ?_; rintro e W9 ⟨rfl, hb9⟩))
            go_ret
            exact ⟨rfl, B0.trans ((k2'.trans (hb9.mono k2'.size)).mono (by omega))⟩
      · cases q
        · rw [hap] at hans
          obtain ⟨⟨g, h, rfl, gc, hgc⟩, hb7⟩ : IsNoKey gx e W6 W7 := hans
          obtain ⟨k1, k2, k3, K7⟩ := X6.tail hb7
          have x3 := cellb k2 z1 b3
          clear hb7 X6
          go_wp2_with fail
          clear x3
          go_loopg [98, 12] j (fun g s98 s12 wr2 => ∃ i, i + g = j ∧ s98 = .int .i64 i ∧ s12 = .bool (AQ md i) ∧ Below W7.heap.size W7 wr2)
          case atStart => exact ⟨0, by omega, rfl, rfl, Below.refl _ _⟩
          case round =>
            obtain ⟨i, hi, rfl, rfl, hbw⟩ := hrel
            have HJ2 : Hid (i + gk = j) := hi
            clear hi
            have k2' := k2.trans (hbw.mono k2.size)
            by_cases hi2 : i < j
            · have hii : (i : Int) < (j : Int) := by omega
              obtain ⟨bb', off', rfl, d0, d1, d2, d3, d4, d5, -, -, -, -⟩ := HC1.below k2' i hi2
              unfold ZM.v at d3
              have tb : bb' < wr.heap.size := World.block_lt_of_cell? wr _ d0
              clear HC1
              cases hpj : (md i).p
              all_goals
                go_wp2_with (go_at_call 6; refine (pname_p (md i) _).mono ?_; rintro e w' ⟨rfl, rfl⟩)
                go_roundg (gk - 1)
                case measure =>
                  have := HJ2.out
                  omega
                case rel =>
                  have := HJ2.out
                  exact ⟨i + 1, by omega, by go_num, by simp [AQ, hpj], hbw.alloc hbw.size _⟩
            · obtain rfl : i = j := by have := HJ2.out; omega
              clear HJ2
              have k1' := cellb hbw k3 k1
              have K7' := K7.below hbw
              have hg7 := hg1.below k2' hg1.lt
              have x1 := cellb k2' z1 b1
              have x3 := cellb k2' z1 b3
              have z7 : w.heap.size < wr.heap.size := by have := k2'.size; omega
              have gc' := cellg hbw gc
              have hc' := cellg hbw hgc
              clear k1 K7 hbw k2
              go_wp2_with (first
                | (go_at_call 11; refine (KSt.calls K7' gx false HQ.out).mono ?_; rintro e w' ⟨rfl, rfl⟩)
                | (go_at_call 13; refine (is_nokey g h 1 _ _ _ hg7 gc' hc').mono ?_; rintro e W9 ⟨rfl, hb9⟩))
              go_ret
              exact ⟨rfl, B0.trans ((k2'.trans (hb9.mono k2'.size)).mono (by omega))⟩
        · cases gok
          · rw [hap] at hans
            obtain ⟨⟨ad, rfl⟩, hb7⟩ : IsPlain e W6 W7 := hans
            obtain ⟨k1, k2, k3, K7⟩ := X6.tail hb7
            have x3 := cellb k2 z1 b3
            clear hb7 X6
            go_wp2_with fail
            clear x3
            go_loopg [98, 12] j (fun g s98 s12 wr2 => ∃ i, i + g = j ∧ s98 = .int .i64 i ∧ s12 = .bool (AQ md i) ∧ Below W7.heap.size W7 wr2)
            case atStart => exact ⟨0, by omega, rfl, rfl, Below.refl _ _⟩
            case round =>
              obtain ⟨i, hi, rfl, rfl, hbw⟩ := hrel
              have HJ2 : Hid (i + gk = j) := hi
              clear hi
              have k2' := k2.trans (hbw.mono k2.size)
              by_cases hi2 : i < j
              · have hii : (i : Int) < (j : Int) := by omega
                obtain ⟨bb', off', rfl, d0, d1, d2, d3, d4, d5, -, -, -, -⟩ := HC1.below k2' i hi2
                unfold ZM.v at d3
                have tb : bb' < wr.heap.size := World.block_lt_of_cell? wr _ d0
                clear HC1
                cases hpj : (md i).p
                all_goals
                  go_wp2_with (go_at_call 6; refine (pname_p (md i) _).mono ?_; rintro e w' ⟨rfl, rfl⟩)
                  go_roundg (gk - 1)
                  case measure =>
                    have := HJ2.out
                    omega
                  case rel =>
                    have := HJ2.out
                    exact ⟨i + 1, by omega, by go_num, by simp [AQ, hpj], hbw.alloc hbw.size _⟩
              · obtain rfl : i = j := by have := HJ2.out; omega
                clear HJ2
                have k1' := cellb hbw k3 k1
                have K7' := K7.below hbw
                have hg7 := hg1.below k2' hg1.lt
                have x1 := cellb k2' z1 b1
                have x3 := cellb k2' z1 b3
                have z7 : w.heap.size < wr.heap.size := by have := k2'.size; omega
                clear k1 K7 hbw k2
                go_wp2_with (first
                  | (go_at_call 11; refine (KSt.calls K7' gx true HQ.out).mono ?_; rintro e w' ⟨rfl, rfl⟩)
                  | (go_at_call 13; refine (is_plain _ _ _ _ hg7).mono ?_; rintro e W9 ⟨rfl, hb9⟩))
                go_ret
                exact ⟨rfl, B0.trans ((k2'.trans (hb9.mono k2'.size)).mono (by omega))⟩
          · obtain ⟨af, haf⟩ : ∃ a, AF md ks j = a := ⟨_, rfl⟩
            obtain ⟨fm, hfm⟩ : ∃ a, FM md ks j = a := ⟨_, rfl⟩
            rw [hap, haf, hfm] at hans
            have HAF : Hid (AF md ks j = af) := haf
            have HFM : Hid (FM md ks j = fm) := hfm
            clear haf hfm
            cases af
            · cases fm with
              | none =>
                obtain ⟨⟨ad, rfl⟩, hb7⟩ : IsPlain e W6 W7 := hans
                obtain ⟨k1, k2, k3, K7⟩ := X6.tail hb7
                have x3 := cellb k2 z1 b3
                clear hb7 X6
                go_wp2_with fail
                clear x3
                go_loopg [98, 12] j (fun g s98 s12 wr2 => ∃ i, i + g = j ∧ s98 = .int .i64 i ∧ s12 = .bool (AQ md i) ∧ Below W7.heap.size W7 wr2)
                case atStart => exact ⟨0, by omega, rfl, rfl, Below.refl _ _⟩
                case round =>
                  obtain ⟨i, hi, rfl, rfl, hbw⟩ := hrel
                  have HJ2 : Hid (i + gk = j) := hi
                  clear hi
                  have k2' := k2.trans (hbw.mono k2.size)
                  by_cases hi2 : i < j
                  · have hii : (i : Int) < (j : Int) := by omega
                    obtain ⟨bb', off', rfl, d0, d1, d2, d3, d4, d5, -, -, -, -⟩ := HC1.below k2' i hi2
                    unfold ZM.v at d3
                    have tb : bb' < wr.heap.size := World.block_lt_of_cell? wr _ d0
                    clear HC1
                    cases hpj : (md i).p
                    all_goals
                      go_wp2_with (go_at_call 6; refine (pname_p (md i) _).mono ?_; rintro e w' ⟨rfl, rfl⟩)
                      go_roundg (gk - 1)
                      case measure =>
                        have := HJ2.out
                        omega
                      case rel =>
                        have := HJ2.out
                        exact ⟨i + 1, by omega, by go_num, by simp [AQ, hpj], hbw.alloc hbw.size _⟩
                  · obtain rfl : i = j := by have := HJ2.out; omega
                    clear HJ2
                    have k1' := cellb hbw k3 k1
                    have K7' := K7.below hbw
                    have hg7 := hg1.below k2' hg1.lt
                    have x1 := cellb k2' z1 b1
                    have x3 := cellb k2' z1 b3
                    have z7 : w.heap.size < wr.heap.size := by have := k2'.size; omega
                    clear k1 K7 hbw k2
                    go_wp2_with (first
                      | (go_at_call 11; refine (KSt.calls K7' gx true HQ.out).mono ?_; rintro e wr ⟨rfl, rfl⟩))
                    go_loopg [111, 17, 18, 19] i (fun g s111 s17 s18 s19 wr3 => ∃ m, m + g = i ∧ s111 = .int .i64 m ∧ s17 = .string (MS (FM md ks m)) ∧ s18 = .bool (FM md ks m).isSome ∧ s19 = .bool false ∧ AF md ks m = false ∧ Below wr.heap.size wr wr3)
                    case atStart => exact ⟨0, by omega, rfl, rfl, rfl, rfl, rfl, Below.refl _ _⟩
                    case round =>
                      obtain ⟨m, hm, rfl, rfl, rfl, rfl, hafm, hbw⟩ := hrel
                      have HJ3 : Hid (m + gk = i) := hm
                      have HAM : Hid (AF md ks m = false) := hafm
                      clear hm hafm
                      have k2'' := k2'.trans (hbw.mono k2'.size)
                      have K9 := K7'.below hbw
                      by_cases hm2 : m < i
                      · have hmm : (m : Int) < (i : Int) := by omega
                        obtain ⟨bb', off', rfl, d0, d1, d2, d3, d4, d5, -, -, -, -⟩ := HC1.below k2'' m hm2
                        unfold ZM.v at d3
                        have tb : bb' < wr.heap.size := World.block_lt_of_cell? wr _ d0
                        clear HC1
                        obtain ⟨qm, hqm⟩ : ∃ q, q = ks.contains (md m).x := ⟨_, rfl⟩
                        have HQM : Hid (qm = ks.contains (md m).x) := hqm
                        clear hqm
                        have ARM : ∀ o, Calls Ybaf.prog 11 #[.slice a1 ks.length c1, .string (nm (md m).x)] (wr.alloc o) fun e w' => e = .returned (.bool qm) ∧ w' = wr.alloc o := fun o => (K9.alloc o).calls (md m).x qm HQM.out
                        cases qm
                        · cases hfm : FM md ks m
                          all_goals
                            go_wp2_with (first
                              | (go_at_call 5; refine (name_x (md m) _).mono ?_; rintro e w' ⟨rfl, rfl⟩)
                              | (go_at_call 11; refine (ARM _).mono ?_; rintro e w' ⟨rfl, rfl⟩))
                            go_roundg (gk - 1)
                            case measure =>
                              have := HJ3.out
                              omega
                            case rel =>
                              have := HJ3.out
                              first
                                | exact ⟨m + 1, by omega, by go_num, congrArg (fun o => Value.string (MS o)) (FM_new hfm HQM.out).symm, congrArg (fun o => Value.bool o.isSome) (FM_new hfm HQM.out).symm, rfl, AF_no HAM.out HQM.out, hbw.alloc hbw.size _⟩
                                | exact ⟨m + 1, by omega, by go_num, congrArg (fun o => Value.string (MS o)) (FM_old hfm).symm, congrArg (fun o => Value.bool o.isSome) (FM_old hfm).symm, rfl, AF_no HAM.out HQM.out, hbw.alloc hbw.size _⟩
                        · cases hok : (md m).ok
                          · exact absurd (AF_mono (j := m + 1) (AF_bad HQM.out hok) (by omega) : AF md ks i = true) (by rw [HAF.out]; simp)
                          · go_wp2_with (first
                              | (go_at_call 5; refine (name_x (md m) _).mono ?_; rintro e w' ⟨rfl, rfl⟩)
                              | (go_at_call 11; refine (ARM _).mono ?_; rintro e w' ⟨rfl, rfl⟩))
                            go_roundg (gk - 1)
                            case measure =>
                              have := HJ3.out
                              omega
                            case rel =>
                              have := HJ3.out
                              exact ⟨m + 1, by omega, by go_num, congrArg (fun o => Value.string (MS o)) (FM_same HQM.out).symm, congrArg (fun o => Value.bool o.isSome) (FM_same HQM.out).symm, rfl, AF_ok HAM.out hok, hbw.alloc hbw.size _⟩
                      · obtain rfl : m = i := by have := HJ3.out; omega
                        have y1 := cellb hbw K7'.2.2 k1'
                        have hg9 := hg1.below k2'' hg1.lt
                        rw [HFM.out]
                        simp only [Option.isSome_none, MS]
                        go_wp2_with (first
                          | (go_at_call 13; refine (is_plain _ _ _ _ hg9).mono ?_; rintro e W9 ⟨rfl, hb9⟩))
                        go_ret
                        exact ⟨rfl, B0.trans ((k2''.trans (hb9.mono k2''.size)).mono (by omega))⟩
              | some y =>
                obtain ⟨⟨g, h, rfl, gc, hgc⟩, hb7⟩ : IsNoKey y e W6 W7 := hans
                obtain ⟨k1, k2, k3, K7⟩ := X6.tail hb7
                have x3 := cellb k2 z1 b3
                clear hb7 X6
                go_wp2_with fail
                clear x3
                go_loopg [98, 12] j (fun g s98 s12 wr2 => ∃ i, i + g = j ∧ s98 = .int .i64 i ∧ s12 = .bool (AQ md i) ∧ Below W7.heap.size W7 wr2)
                case atStart => exact ⟨0, by omega, rfl, rfl, Below.refl _ _⟩
                case round =>
                  obtain ⟨i, hi, rfl, rfl, hbw⟩ := hrel
                  have HJ2 : Hid (i + gk = j) := hi
                  clear hi
                  have k2' := k2.trans (hbw.mono k2.size)
                  by_cases hi2 : i < j
                  · have hii : (i : Int) < (j : Int) := by omega
                    obtain ⟨bb', off', rfl, d0, d1, d2, d3, d4, d5, -, -, -, -⟩ := HC1.below k2' i hi2
                    unfold ZM.v at d3
                    have tb : bb' < wr.heap.size := World.block_lt_of_cell? wr _ d0
                    clear HC1
                    cases hpj : (md i).p
                    all_goals
                      go_wp2_with (go_at_call 6; refine (pname_p (md i) _).mono ?_; rintro e w' ⟨rfl, rfl⟩)
                      go_roundg (gk - 1)
                      case measure =>
                        have := HJ2.out
                        omega
                      case rel =>
                        have := HJ2.out
                        exact ⟨i + 1, by omega, by go_num, by simp [AQ, hpj], hbw.alloc hbw.size _⟩
                  · obtain rfl : i = j := by have := HJ2.out; omega
                    clear HJ2
                    have k1' := cellb hbw k3 k1
                    have K7' := K7.below hbw
                    have hg7 := hg1.below k2' hg1.lt
                    have x1 := cellb k2' z1 b1
                    have x3 := cellb k2' z1 b3
                    have z7 : w.heap.size < wr.heap.size := by have := k2'.size; omega
                    have gc' := cellg hbw gc
                    have hc' := cellg hbw hgc
                    clear k1 K7 hbw k2
                    go_wp2_with (first
                      | (go_at_call 11; refine (KSt.calls K7' gx true HQ.out).mono ?_; rintro e wr ⟨rfl, rfl⟩))
                    go_loopg [111, 17, 18, 19] i (fun g s111 s17 s18 s19 wr3 => ∃ m, m + g = i ∧ s111 = .int .i64 m ∧ s17 = .string (MS (FM md ks m)) ∧ s18 = .bool (FM md ks m).isSome ∧ s19 = .bool false ∧ AF md ks m = false ∧ Below wr.heap.size wr wr3)
                    case atStart => exact ⟨0, by omega, rfl, rfl, rfl, rfl, rfl, Below.refl _ _⟩
                    case round =>
                      obtain ⟨m, hm, rfl, rfl, rfl, rfl, hafm, hbw⟩ := hrel
                      have HJ3 : Hid (m + gk = i) := hm
                      have HAM : Hid (AF md ks m = false) := hafm
                      clear hm hafm
                      have k2'' := k2'.trans (hbw.mono k2'.size)
                      have K9 := K7'.below hbw
                      by_cases hm2 : m < i
                      · have hmm : (m : Int) < (i : Int) := by omega
                        obtain ⟨bb', off', rfl, d0, d1, d2, d3, d4, d5, -, -, -, -⟩ := HC1.below k2'' m hm2
                        unfold ZM.v at d3
                        have tb : bb' < wr.heap.size := World.block_lt_of_cell? wr _ d0
                        clear HC1
                        obtain ⟨qm, hqm⟩ : ∃ q, q = ks.contains (md m).x := ⟨_, rfl⟩
                        have HQM : Hid (qm = ks.contains (md m).x) := hqm
                        clear hqm
                        have ARM : ∀ o, Calls Ybaf.prog 11 #[.slice a1 ks.length c1, .string (nm (md m).x)] (wr.alloc o) fun e w' => e = .returned (.bool qm) ∧ w' = wr.alloc o := fun o => (K9.alloc o).calls (md m).x qm HQM.out
                        cases qm
                        · cases hfm : FM md ks m
                          all_goals
                            go_wp2_with (first
                              | (go_at_call 5; refine (name_x (md m) _).mono ?_; rintro e w' ⟨rfl, rfl⟩)
                              | (go_at_call 11; refine (ARM _).mono ?_; rintro e w' ⟨rfl, rfl⟩))
                            go_roundg (gk - 1)
                            case measure =>
                              have := HJ3.out
                              omega
                            case rel =>
                              have := HJ3.out
                              first
                                | exact ⟨m + 1, by omega, by go_num, congrArg (fun o => Value.string (MS o)) (FM_new hfm HQM.out).symm, congrArg (fun o => Value.bool o.isSome) (FM_new hfm HQM.out).symm, rfl, AF_no HAM.out HQM.out, hbw.alloc hbw.size _⟩
                                | exact ⟨m + 1, by omega, by go_num, congrArg (fun o => Value.string (MS o)) (FM_old hfm).symm, congrArg (fun o => Value.bool o.isSome) (FM_old hfm).symm, rfl, AF_no HAM.out HQM.out, hbw.alloc hbw.size _⟩
                        · cases hok : (md m).ok
                          · exact absurd (AF_mono (j := m + 1) (AF_bad HQM.out hok) (by omega) : AF md ks i = true) (by rw [HAF.out]; simp)
                          · go_wp2_with (first
                              | (go_at_call 5; refine (name_x (md m) _).mono ?_; rintro e w' ⟨rfl, rfl⟩)
                              | (go_at_call 11; refine (ARM _).mono ?_; rintro e w' ⟨rfl, rfl⟩))
                            go_roundg (gk - 1)
                            case measure =>
                              have := HJ3.out
                              omega
                            case rel =>
                              have := HJ3.out
                              exact ⟨m + 1, by omega, by go_num, congrArg (fun o => Value.string (MS o)) (FM_same HQM.out).symm, congrArg (fun o => Value.bool o.isSome) (FM_same HQM.out).symm, rfl, AF_ok HAM.out hok, hbw.alloc hbw.size _⟩
                      · obtain rfl : m = i := by have := HJ3.out; omega
                        have y1 := cellb hbw K7'.2.2 k1'
                        have hg9 := hg1.below k2'' hg1.lt
                        rw [HFM.out]
                        simp only [Option.isSome_some, MS]
                        have gc'' := cellg hbw gc'
                        have hc'' := cellg hbw hc'
                        go_wp2_with (first
                          | (go_at_call 13; refine (is_nokey g h 1 _ _ _ hg9 gc'' hc'').mono ?_; rintro e W9 ⟨rfl, hb9⟩))
                        go_ret
                        exact ⟨rfl, B0.trans ((k2''.trans (hb9.mono k2''.size)).mono (by omega))⟩
            · obtain ⟨rfl, hb7⟩ : IsNilA e W6 W7 := hans
              obtain ⟨k1, k2, k3, K7⟩ := X6.tail hb7
              have x3 := cellb k2 z1 b3
              clear hb7 X6
              go_wp2_with fail
              clear x3
              go_loopg [98, 12] j (fun g s98 s12 wr2 => ∃ i, i + g = j ∧ s98 = .int .i64 i ∧ s12 = .bool (AQ md i) ∧ Below W7.heap.size W7 wr2)
              case atStart => exact ⟨0, by omega, rfl, rfl, Below.refl _ _⟩
              case round =>
                obtain ⟨i, hi, rfl, rfl, hbw⟩ := hrel
                have HJ2 : Hid (i + gk = j) := hi
                clear hi
                have k2' := k2.trans (hbw.mono k2.size)
                by_cases hi2 : i < j
                · have hii : (i : Int) < (j : Int) := by omega
                  obtain ⟨bb', off', rfl, d0, d1, d2, d3, d4, d5, -, -, -, -⟩ := HC1.below k2' i hi2
                  unfold ZM.v at d3
                  have tb : bb' < wr.heap.size := World.block_lt_of_cell? wr _ d0
                  clear HC1
                  cases hpj : (md i).p
                  all_goals
                    go_wp2_with (go_at_call 6; refine (pname_p (md i) _).mono ?_; rintro e w' ⟨rfl, rfl⟩)
                    go_roundg (gk - 1)
                    case measure =>
                      have := HJ2.out
                      omega
                    case rel =>
                      have := HJ2.out
                      exact ⟨i + 1, by omega, by go_num, by simp [AQ, hpj], hbw.alloc hbw.size _⟩
                · obtain rfl : i = j := by have := HJ2.out; omega
                  clear HJ2
                  have k1' := cellb hbw k3 k1
                  have K7' := K7.below hbw
                  have hg7 := hg1.below k2' hg1.lt
                  have x1 := cellb k2' z1 b1
                  have x3 := cellb k2' z1 b3
                  have z7 : w.heap.size < wr.heap.size := by have := k2'.size; omega
                  clear k1 K7 hbw k2
                  go_wp2_with (first
                    | (go_at_call 11; refine (KSt.calls K7' gx true HQ.out).mono ?_; rintro e wr ⟨rfl, rfl⟩))
                  go_loopg [111, 17, 18, 19] i (fun g s111 s17 s18 s19 wr3 => ∃ m, m + g = i ∧ s111 = .int .i64 m ∧ s17 = .string (MS (FM md ks m)) ∧ s18 = .bool (FM md ks m).isSome ∧ s19 = .bool false ∧ AF md ks m = false ∧ Below wr.heap.size wr wr3)
                  case atStart => exact ⟨0, by omega, rfl, rfl, rfl, rfl, rfl, Below.refl _ _⟩
                  case round =>
                    obtain ⟨m, hm, rfl, rfl, rfl, rfl, hafm, hbw⟩ := hrel
                    have HJ3 : Hid (m + gk = i) := hm
                    have HAM : Hid (AF md ks m = false) := hafm
                    clear hm hafm
                    have k2'' := k2'.trans (hbw.mono k2'.size)
                    have K9 := K7'.below hbw
                    by_cases hm2 : m < i
                    · have hmm : (m : Int) < (i : Int) := by omega
                      obtain ⟨bb', off', rfl, d0, d1, d2, d3, d4, d5, -, -, -, -⟩ := HC1.below k2'' m hm2
                      unfold ZM.v at d3
                      have tb : bb' < wr.heap.size := World.block_lt_of_cell? wr _ d0
                      clear HC1
                      obtain ⟨qm, hqm⟩ : ∃ q, q = ks.contains (md m).x := ⟨_, rfl⟩
                      have HQM : Hid (qm = ks.contains (md m).x) := hqm
                      clear hqm
                      have ARM : ∀ o, Calls Ybaf.prog 11 #[.slice a1 ks.length c1, .string (nm (md m).x)] (wr.alloc o) fun e w' => e = .returned (.bool qm) ∧ w' = wr.alloc o := fun o => (K9.alloc o).calls (md m).x qm HQM.out
                      cases qm
                      · cases hfm : FM md ks m
                        all_goals
                          go_wp2_with (first
                            | (go_at_call 5; refine (name_x (md m) _).mono ?_; rintro e w' ⟨rfl, rfl⟩)
                            | (go_at_call 11; refine (ARM _).mono ?_; rintro e w' ⟨rfl, rfl⟩))
                          go_roundg (gk - 1)
                          case measure =>
                            have := HJ3.out
                            omega
                          case rel =>
                            have := HJ3.out
                            first
                              | exact ⟨m + 1, by omega, by go_num, congrArg (fun o => Value.string (MS o)) (FM_new hfm HQM.out).symm, congrArg (fun o => Value.bool o.isSome) (FM_new hfm HQM.out).symm, rfl, AF_no HAM.out HQM.out, hbw.alloc hbw.size _⟩
                              | exact ⟨m + 1, by omega, by go_num, congrArg (fun o => Value.string (MS o)) (FM_old hfm).symm, congrArg (fun o => Value.bool o.isSome) (FM_old hfm).symm, rfl, AF_no HAM.out HQM.out, hbw.alloc hbw.size _⟩
                      · cases hok : (md m).ok
                        · have BB : Below w1.heap.size w1 (wr.alloc (.cells #[.int .u8 (md m).nd, .int .u8 (md m).pr, .int .u64 (md m).st, .slice (md m).va (md m).xs.length (md m).vc, .bool (md m).ok, .bool (md m).hk] 29)) := k2''.alloc k2''.size _
                          have y1 := cellb (hbw.alloc hbw.size (.cells #[.int .u8 (md m).nd, .int .u8 (md m).pr, .int .u64 (md m).st, .slice (md m).va (md m).xs.length (md m).vc, .bool (md m).ok, .bool (md m).hk] 29)) K7'.2.2 k1'
                          rw [hok] at BB y1
                          go_wp2_with (first
                            | (go_at_call 5; refine (name_x (md m) _).mono ?_; rintro e w' ⟨rfl, rfl⟩)
                            | (go_at_call 11; refine (ARM _).mono ?_; rintro e w' ⟨rfl, rfl⟩)
                            | (go_at_call 13; refine (is_nil _ _ _).mono ?_; rintro e W9 ⟨rfl, hb9⟩))
                          go_ret
                          exact ⟨rfl, B0.trans ((BB.trans (hb9.mono BB.size)).mono (by omega))⟩
                        · go_wp2_with (first
                            | (go_at_call 5; refine (name_x (md m) _).mono ?_; rintro e w' ⟨rfl, rfl⟩)
                            | (go_at_call 11; refine (ARM _).mono ?_; rintro e w' ⟨rfl, rfl⟩))
                          go_roundg (gk - 1)
                          case measure =>
                            have := HJ3.out
                            omega
                          case rel =>
                            have := HJ3.out
                            exact ⟨m + 1, by omega, by go_num, congrArg (fun o => Value.string (MS o)) (FM_same HQM.out).symm, congrArg (fun o => Value.bool o.isSome) (FM_same HQM.out).symm, rfl, AF_ok HAM.out hok, hbw.alloc hbw.size _⟩
                    · obtain rfl : m = i := by have := HJ3.out; omega
                      exact absurd HAF.out (by rw [HAM.out]; simp)
end Go.Proofs.YbulkcegsFmt
