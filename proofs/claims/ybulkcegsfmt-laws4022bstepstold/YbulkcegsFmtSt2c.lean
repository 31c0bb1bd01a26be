import Derived.Test.YbulkcegsFmtStB
import Derived.Test.YbulkcegsFmtStF
import Derived.BigQuiet
import Derived.Deep.QuietTactic
import Derived.Deep.RegionHeld3
import Derived.Deep.DrawnRows
import Derived.Deep.LoopGhost
namespace Go.Proofs.YbulkcegsFmt
open Go.RowKit Go.Shelf Go.Extern.Stop Go.Stop Go.Extern
set_option linter.unusedVariables false
attribute [local go_sem] Oper.semAt_some
attribute [local go_sem ↓] Go.wp_at_zero Go.wp_at_succ

set_option maxRecDepth 100000 in
set_option maxHeartbeats 8000000 in
theorem law_2c (F : Interp) (a0 : Option Addr) (len cap : Nat) (sel : Int) (md : Nat → ZM) (w : World) (hF : F.answers w.tape) (hl : len ≤ 1024) (HC : InAt w a0 len md) (hg : ErrT w) (hsel : sel.tmod 3 = 2) (hn : Hid (len = 2)) :
    Calls Ybaf.prog 3 #[.slice a0 len cap, .int .u8 sel] w fun e w' => e = .returned (.bool true) ∧ Below w.heap.size w w' := by
  obtain ⟨i36, hi36, hz36, hs36, hb36⟩ := info_parts Ybaf.info36
  obtain ⟨i9, hi9, hz9, hs9, hb9⟩ := info_parts Ybaf.info9
  have hl1 : (len : Int) ≤ 1024 := by omega
  go_enter Ybaf.func3, Ybaf.ntmps3
  go_wp2_with (first
    | (at_make; refine wpList_make_full _ rfl _ _ 24 rfl w.heap.size 36 i36 .nilIface 1 Ybaf.underlying24 hi36 hz36 hs36 .i64 .i64 _ _ len rfl rfl rfl rfl (by rw [hb36]; omega) (by unfold maxLen; omega) (Nat.le_refl _) ?_; intro w0 hown0 hgrow0))
  have L0 : L1 w _ len 0 0 md _ := L1.start (md := md) hown0 hgrow0 (W2 := w)
  clear hown0 hgrow0
  go_loopg [31, 6] len (fun g s31 s6 wr => ∃ j kv, j + g = len ∧ s31 = .int .i64 j ∧ s6 = kv ∧ L1 w wr len j j md kv)
  case atStart => exact ⟨0, _, by omega, rfl, rfl, L0⟩
  case round =>
    clear L0
    obtain ⟨j, kv, hj, rfl, rfl, hst⟩ := hrel
    have HJ : Hid (j + gk = len) := hj
    clear hj
    by_cases hjl : j < len
    · have hji : (j : Int) < (len : Int) := by omega
      obtain ⟨bb, off, rfl, d0, d1, d2, d3, d4, d5, d6, d7, d8, d9⟩ := (HC j hjl)
      have bw := hst.below
      have hbl : bb < w.heap.size := World.block_lt_of_cell? w _ d0
      have k : ∀ o, wr.cell? ⟨bb, o, none⟩ = w.cell? ⟨bb, o, none⟩ := fun o => bw.cell (p := ⟨bb, o, none⟩) hbl
      have e0 := (k _).trans d0
      have e1 := (k _).trans d1
      have e2 := (k _).trans d2
      have e3 := (k _).trans d3
      have e4 := (k _).trans d4
      have e5 := (k _).trans d5
      clear k
      unfold ZM.v at e3
      have hsw := bw.size
      have t1 : w.heap.size < wr.heap.size := hst.lt
      go_wp2_with fail
      refine abs_act ?_
      intro A0 hA0
      have hbt : ∀ W : World, Below wr.heap.size wr W → BytesAt W (.slice (md j).va (md j).xs.length (md j).vc) (md j).xs := fun W hW => (d6.below bw).below hW
      refine merge_wp (fun A W => ∃ b B9 v44 v50, A = { tmps := ((((((((((((((((A0.tmps.setIfInBounds 36 (.pointer (some ⟨wr.heap.size, 0, none⟩))).setIfInBounds 37 (.int .u8 (md j).nd)).setIfInBounds 38 (.string (nm (md j).x))).setIfInBounds 39 (.pointer (some ⟨wr.heap.size, 1, none⟩))).setIfInBounds 40 (.int .u8 (md j).pr)).setIfInBounds 41 (.string (pn (md j).p))).setIfInBounds 42 (.pointer (some ⟨wr.heap.size, 2, none⟩))).setIfInBounds 43 (.int .u64 (md j).st)).setIfInBounds 44 v44).setIfInBounds 45 (.pointer (some ⟨wr.heap.size, 3, none⟩))).setIfInBounds 46 (.slice (md j).va (md j).xs.length (md j).vc)).setIfInBounds 47 (.pointer (some ⟨wr.heap.size, 4, none⟩))).setIfInBounds 48 (.bool (md j).ok)).setIfInBounds 49 (.slice (some ⟨b, 0, none⟩) ((md j).xs.length + 64) ((md j).xs.length + 64))).setIfInBounds 50 v50).setIfInBounds 9 (.pointer (some ⟨B9, 0, none⟩))), defers := A0.defers }
        ∧ MsgBox W B9 (md j).x (md j).p (md j).s b ((md j).xs.length + 64) ∧ DataAt W b (md j).xs (md j).ok ∧ wr.heap.size + 1 ≤ b ∧ wr.heap.size + 1 ≤ B9 ∧ Below (wr.heap.size + 1) (wr.alloc (.cells #[.int .u8 (md j).nd, .int .u8 (md j).pr, .int .u64 (md j).st, .slice (md j).va (md j).xs.length (md j).vc, .bool (md j).ok, .bool (md j).hk] 29)) W) ?r ?s
      case r =>
        rw [hA0]
        have HA : Hid (A0 = _) := hA0
        clear hA0
        go_region_held3 (fun w' => w'.cell? ⟨wr.heap.size, 0, none⟩ = some (.int .u8 (md j).nd) ∧ w'.cell? ⟨wr.heap.size, 1, none⟩ = some (.int .u8 (md j).pr) ∧ w'.cell? ⟨wr.heap.size, 2, none⟩ = some (.int .u64 (md j).st) ∧ w'.cell? ⟨wr.heap.size, 3, none⟩ = some (.slice (md j).va (md j).xs.length (md j).vc) ∧ w'.cell? ⟨wr.heap.size, 4, none⟩ = some (.bool (md j).ok)) (go_simp)
          (first
            | (go_at_call 5; refine (name_calls _ _).mono ?_; rintro e w' ⟨rfl, rfl⟩)
            | (go_at_call 6; refine (pname_calls _ _).mono ?_; rintro e w' ⟨rfl, rfl⟩)
            | (go_at_call 7; refine (data_calls _ (md j).xs _ _ (hbt _ (by repeat (first | exact Below.refl _ _ | apply Below.drew | refine Below.alloc ?_ (by first | omega | (simp <;> omega)) _))) d7).mono ?_; rintro e w' ⟨g, rfl, hg7, hd7, hb7⟩; have q0 : w'.cell? ⟨wr.heap.size, 0, none⟩ = some (.int .u8 (md j).nd) := (hb7.cell (p := ⟨wr.heap.size, 0, none⟩) (by simp <;> omega)).trans (by go_simp); have q1 : w'.cell? ⟨wr.heap.size, 1, none⟩ = some (.int .u8 (md j).pr) := (hb7.cell (p := ⟨wr.heap.size, 1, none⟩) (by simp <;> omega)).trans (by go_simp); have q2 : w'.cell? ⟨wr.heap.size, 2, none⟩ = some (.int .u64 (md j).st) := (hb7.cell (p := ⟨wr.heap.size, 2, none⟩) (by simp <;> omega)).trans (by go_simp); have q3 : w'.cell? ⟨wr.heap.size, 3, none⟩ = some (.slice (md j).va (md j).xs.length (md j).vc) := (hb7.cell (p := ⟨wr.heap.size, 3, none⟩) (by simp <;> omega)).trans (by go_simp); have q4 : w'.cell? ⟨wr.heap.size, 4, none⟩ = some (.bool (md j).ok) := (hb7.cell (p := ⟨wr.heap.size, 4, none⟩) (by simp <;> omega)).trans (by go_simp); have q5 : wr.heap.size < w'.heap.size := (by have := hb7.size; simp at this; omega); try (obtain ⟨p0, f0, p1, f1, p2, f2, p3, f3, p4, f4, p5, f5, p6, f6⟩ : w'.cell? ⟨wr.heap.size + 1, 0, none⟩ = some (.string ⟨#[]⟩) ∧ w'.frozen? ⟨wr.heap.size + 1, 0, none⟩ = false ∧ w'.cell? ⟨wr.heap.size + 1, 1, none⟩ = some (.string ⟨#[]⟩) ∧ w'.frozen? ⟨wr.heap.size + 1, 1, none⟩ = false ∧ w'.cell? ⟨wr.heap.size + 1, 2, none⟩ = some (.int .u64 0) ∧ w'.frozen? ⟨wr.heap.size + 1, 2, none⟩ = false ∧ w'.cell? ⟨wr.heap.size + 1, 3, none⟩ = some (.slice none 0 0) ∧ w'.frozen? ⟨wr.heap.size + 1, 3, none⟩ = false ∧ w'.cell? ⟨wr.heap.size + 1, 4, none⟩ = some (.slice none 0 0) ∧ w'.frozen? ⟨wr.heap.size + 1, 4, none⟩ = false ∧ w'.cell? ⟨wr.heap.size + 1, 5, none⟩ = some (.slice none 0 0) ∧ w'.frozen? ⟨wr.heap.size + 1, 5, none⟩ = false ∧ w'.cell? ⟨wr.heap.size + 1, 6, none⟩ = some (.int .i64 0) ∧ w'.frozen? ⟨wr.heap.size + 1, 6, none⟩ = false; focus (refine ⟨(hb7.cell (p := ⟨wr.heap.size + 1, 0, none⟩) ?_).trans ?_, (hb7.frozen (p := ⟨wr.heap.size + 1, 0, none⟩) ?_).trans ?_, (hb7.cell (p := ⟨wr.heap.size + 1, 1, none⟩) ?_).trans ?_, (hb7.frozen (p := ⟨wr.heap.size + 1, 1, none⟩) ?_).trans ?_, (hb7.cell (p := ⟨wr.heap.size + 1, 2, none⟩) ?_).trans ?_, (hb7.frozen (p := ⟨wr.heap.size + 1, 2, none⟩) ?_).trans ?_, (hb7.cell (p := ⟨wr.heap.size + 1, 3, none⟩) ?_).trans ?_, (hb7.frozen (p := ⟨wr.heap.size + 1, 3, none⟩) ?_).trans ?_, (hb7.cell (p := ⟨wr.heap.size + 1, 4, none⟩) ?_).trans ?_, (hb7.frozen (p := ⟨wr.heap.size + 1, 4, none⟩) ?_).trans ?_, (hb7.cell (p := ⟨wr.heap.size + 1, 5, none⟩) ?_).trans ?_, (hb7.frozen (p := ⟨wr.heap.size + 1, 5, none⟩) ?_).trans ?_, (hb7.cell (p := ⟨wr.heap.size + 1, 6, none⟩) ?_).trans ?_, (hb7.frozen (p := ⟨wr.heap.size + 1, 6, none⟩) ?_).trans ?_⟩ <;> first | (go_simp; done) | (simp <;> omega)))))
        all_goals have hb8 : Below (wr.heap.size + 1) (wr.alloc (.cells #[.int .u8 (md j).nd, .int .u8 (md j).pr, .int .u64 (md j).st, .slice (md j).va (md j).xs.length (md j).vc, .bool (md j).ok, .bool (md j).hk] 29)) w' := Below.trans (by repeat (first | exact Below.refl _ _ | apply Below.drew | refine Below.alloc ?_ (by first | omega | (simp <;> omega)) _)) (hb7.mono (by simp <;> omega))
        all_goals simp only [World.size_alloc, World.size_drew] at hg7
        all_goals (refine ⟨rfl, g, _, _, _, rfl, ?_, ?_, ?_, ?_, ?_⟩)
        all_goals first
          | (with_reducible exact DataAt.alloc hd7 _)
          | (with_reducible refine DataAt.set (DataAt.set (DataAt.set (DataAt.set (DataAt.set (DataAt.set (DataAt.set hd7 ?_) ?_) ?_) ?_) ?_) ?_) ?_ <;> omega)
          | (with_reducible exact hb8.alloc (by have := hb8.size; simpa using this) _)
          | (with_reducible refine Below.setCell (Below.setCell (Below.setCell (Below.setCell (Below.setCell (Below.setCell (Below.setCell hb8 ?_ _) ?_ _) ?_ _) ?_ _) ?_ _) ?_ _) ?_ _ <;> exact Nat.le_refl _)
          | (with_reducible refine mb_of ?_ ?_ ?_ ?_ ?_ ?_ ?_ <;> first | (go_simp; done) | (simp only [ZM.x, ZM.p, ZM.s]; go_simp))
          | omega
      rintro A W8 ⟨b, B9, v44, v50, rfl, mb, hd8, hbb, hbB, hb8⟩
      rw [hA0]
      simp only [List.setIfInBounds_toArray, List.set_cons_zero, List.set_cons_succ]
      clear hA0 hbt
      have hst8 : L1 w W8 len j j md u6 := (hst.alloc _).grow (by simpa using hb8)
      have e8 : W8.cell? ⟨wr.heap.size, 5, none⟩ = some (.bool (md j).hk) := (hb8.cell (p := ⟨wr.heap.size, 5, none⟩) (by show wr.heap.size < _; omega)).trans (by go_simp)
      have hs8 : wr.heap.size + 1 ≤ W8.heap.size := by simpa using hb8.size
      have hkn : u6.ownBlock ≠ some b := fun e => by have := (hst.keyed.lt b e).2; omega
      have L9 := hst8.put hjl hd8 (by omega) hkn
      unfold msgV at L9
      obtain ⟨⟨uj, hcj⟩, hfj⟩ := hst8.slot hjl
      clear e0 e1 e2 e3 e4 e5 d0 d1 d2 d3 d4 d5 hst hst8 hd8 hb8 hkn hbb bw d6
      obtain ⟨c0, c1, c2, c3, c4, c5, c6⟩ := mb
      have t2 : w.heap.size < W8.heap.size := by omega
      have t3 : wr.heap.size < W8.heap.size := by omega
      have t4 : B9 < W8.heap.size := World.block_lt_of_cell? W8 _ c0
      have kl := keysOf_len md j
      have t5 : B9 ≠ w.heap.size := by omega
      have t6 : w.heap.size ≠ B9 := by omega
      have t7 : wr.heap.size ≠ w.heap.size := by omega
      have t8 : w.heap.size ≠ wr.heap.size := by omega
      cases hh : (md j).hk
      · go_wp2_with fail
        go_roundg (gk - 1)
        case measure =>
          have := HJ.out
          omega
        case rel =>
          have := HJ.out
          exact ⟨j + 1, u6, by omega, by go_num, rfl, L9.skip hh⟩
      · have L10 := L9.alloc (.cells #[.string (nm (md j).x)] 9)
        go_wp2_with (at_builtin; refine wpList_append_own_at _ rfl _ _ 25 rfl (w.heap.size + 1) 9 i9 (.string ⟨#[]⟩) 1 16 Ybaf.underlying25 hi9 hz9 hs9 hb9 rfl (by omega) u6 (keysOf md j).length ((keysOf md j).map fun x => .string (nm x)) rfl L10.keyed ⟨W8.heap.size, 0, none⟩ 1 1 [.string (nm (md j).x)] rfl rfl (cell_one_new2 (by simp) _ _) (by simp [Value.oneCell']) (by unfold maxLen; omega) (by omega) (by simp; omega) ?_; intro kv' w3 ho hgr hn hat)
        go_roundg (gk - 1)
        case measure =>
          have := HJ.out
          omega
        case rel =>
          have := HJ.out
          exact ⟨j + 1, kv', by omega, by go_num, rfl, L10.add hh ho hgr hat⟩
    · obtain rfl : j = len := by have := HJ.out; omega
      obtain ⟨a1, c1, rfl, hks⟩ := hst.kv_form
      have bw := hst.below
      have hlt := hst.lt
      have hn1 := hn.out
      clear hn
      subst hn1
      obtain ⟨bb, off, rfl, -, -, -, -, -, -, -, hlen, -, -⟩ := HC 0 (by omega)
      obtain ⟨bb2, off2, eo2, -, -, -, -, -, -, -, hlen', -, -⟩ := HC 1 (by omega)
      cases eo2
      clear HJ hjl hi36 hz36 hs36 hb36 hi9 hz9 hs9 hb9
      obtain ⟨q, hq⟩ : ∃ q, q = (keysOf md 2).contains (md 0).x := ⟨_, rfl⟩
      have HQ : Hid (q = (keysOf md 2).contains (md 0).x) := hq
      clear hq
      obtain ⟨same, hs⟩ : ∃ s, s = ((strOfNums (md 0).xs).toList == (strOfNums (md 1).xs).toList) := ⟨_, rfl⟩
      have HS : Hid (same = ((strOfNums (md 0).xs).toList == (strOfNums (md 1).xs).toList)) := hs
      clear hs
      go_wp2_with (first
        | (go_at_call 8; refine (errNew_calls _ _).mono ?_; rintro e w' ⟨rfl, rfl⟩)
        | (go_at_call 10; refine (keys_calls _ _ _ _).mono ?_; rintro e W6 ⟨rfl, hb6, hk6, hs6⟩; have H6 := L1.toC6 hst hl _ (by repeat (first | exact Below.refl _ _ | apply Below.drew | refine Below.alloc ?_ (by first | omega | (simp <;> omega)) _)) hb6 hk6 hs6; have K6 := L1.toKS hst hl _ (by repeat (first | exact Below.refl _ _ | apply Below.drew | refine Below.alloc ?_ (by first | omega | (simp <;> omega)) _)) hb6 hs6; clear hb6 hk6 hs6; try simp only [World.size_alloc] at H6 K6))
      obtain ⟨b, hm, hd⟩ := H6.msgs 0 (by omega)
      obtain ⟨b', hm', hd'⟩ := H6.msgs 1 (by omega)
      refine (check2 F _ _ _ _ (md 0).x (md 0).p (md 0).s b (md 0).xs (md 0).ok (md 1).x (md 1).p (md 1).s b' (md 1).xs (md 1).ok _ q HQ.out same HS.out _ (H6.answers hF) H6.lt hm hm' hlen hlen' hd hd' H6.keys).mono ?_
      rintro e W7 hans
      clear hm hd hm' hd' hst hks bw hlt
      have hans2 : AnsK (c2 md q same) (md 0).x e W6 W7 := hans
      clear hans
      rcases c2_cases md q same with hc | hc | hc
      · rw [hc] at hans2
        have HC0 : Hid (c2 md q same = 0) := hc
        clear hc
        obtain ⟨⟨ad, rfl⟩, hb7⟩ : IsPlain e W6 W7 := hans2
        obtain ⟨k1, k2, k3⟩ := H6.tail hb7
        have K7 := K6.below hb7
        clear hb7
        obtain ⟨bb', off', eo, d0, -, -, -, -, -, -, -, -, -⟩ := HC.below k2 0 (by omega)
        cases eo
        simp only [Nat.zero_mul, Nat.add_zero] at d0
        go_wp2_with (go_at_call 5; refine (name_x (md 0) _).mono ?_; rintro e W7 ⟨rfl, rfl⟩)
        clear d0
        go_loopg [99, 17, 18, 19] 2 (fun g s99 s17 s18 s19 wr2 => ∃ j, j + g = 2 ∧ s99 = .int .i64 j ∧ s17 = .bool (AP md j) ∧ s18 = .bool (SM md j) ∧ s19 = .bool (SG md j) ∧ Below W7.heap.size W7 wr2)
        case atStart => exact ⟨0, rfl, rfl, rfl, rfl, rfl, Below.refl _ _⟩
        case round =>
          obtain ⟨j, hj, rfl, rfl, rfl, rfl, hbw⟩ := hrel
          have HJ2 : Hid (j + gk = 2) := hj
          clear hj
          have k2' := k2.trans (hbw.mono k2.size)
          by_cases hj2 : j < 2
          · have hji : (j : Int) < 2 := by omega
            obtain ⟨bb', off', eo, d0, d1, d2, d3, d4, d5, -, -, -, -⟩ := HC.below k2' j hj2
            cases eo
            unfold ZM.v at d3
            have tb : bb < wr.heap.size := World.block_lt_of_cell? wr _ d0
            clear HC
            have hxx : (md j).x = (md 0).x ∨ ((md j).x == (md 0).x) = false := by cases (md j).x <;> cases (md 0).x <;> simp
            rcases hxx with hxx | hxx
            all_goals cases hpj : (md j).p
            all_goals cases hoj : (md j).ok
            all_goals
              go_wp2_with (first
                | (go_at_call 5; refine (name_x (md j) _).mono ?_; rintro e w' ⟨rfl, rfl⟩)
                | (go_at_call 6; refine (pname_p (md j) _).mono ?_; rintro e w' ⟨rfl, rfl⟩))
              go_roundg (gk - 1)
              case measure =>
                have := HJ2.out
                omega
              case rel =>
                have := HJ2.out
                exact ⟨j + 1, by omega, by go_num, by simp [AP, hpj], by simp [SM, hxx], by simp [SG, hoj], hbw.alloc hbw.size _⟩
          · obtain rfl : j = 2 := by have := HJ2.out; omega
            clear HJ2
            have k1' := cell1_below hbw k3 k1
            have K7' := K7.below hbw
            have hg7 := hg.below k2' hg.lt
            obtain ⟨bb', off', eo, -, -, d2, d3, -, -, y0, -, -, -⟩ := HC.below k2' 0 (by omega)
            cases eo
            obtain ⟨bb', off', eo, -, -, f2, f3, -, -, y1, -, -, -⟩ := HC.below k2' 1 (by omega)
            cases eo
            unfold ZM.v at d3 f3 y0 y1
            simp only [Nat.zero_mul, Nat.add_zero, Nat.one_mul] at d2 d3 f2 f3
            clear k1 K7 HC
            cases hap : AP md 2
            · go_wp2_with (first
                  | (go_at_call 11; refine (KSt.calls K7' (md 0).x q HQ.out).mono ?_; rintro e w' ⟨rfl, rfl⟩)
                  | (go_at_call 13; refine (is_plain _ _ _ _ (by exact hg7)).mono ?_; rintro e W8 ⟨rfl, hb8⟩))
              go_ret
              first
                | exact ⟨rfl, k2'.trans (hb8.mono k2'.size)⟩
                | exact ⟨rfl, (Below_drewN k2' _).trans (hb8.mono k2'.size)⟩
            · obtain ⟨rfl, hrest⟩ := c2_0 HC0.out hap
              have HR : Hid (SM md 2 = true → SG md 2 = true → (md 0).s = (md 1).s → same = true) := hrest
              clear hrest
              cases hsm : SM md 2
              · go_wp2_with (first
                    | (go_at_call 11; refine (KSt.calls K7' (md 0).x true HQ.out).mono ?_; rintro e w' ⟨rfl, rfl⟩)
                    | (go_at_call 13; refine (is_plain _ _ _ _ (by exact hg7)).mono ?_; rintro e W8 ⟨rfl, hb8⟩))
                go_ret
                first
                  | exact ⟨rfl, k2'.trans (hb8.mono k2'.size)⟩
                  | exact ⟨rfl, (Below_drewN k2' _).trans (hb8.mono k2'.size)⟩
              · cases hsg : SG md 2
                · go_wp2_with (first
                      | (go_at_call 11; refine (KSt.calls K7' (md 0).x true HQ.out).mono ?_; rintro e w' ⟨rfl, rfl⟩)
                      | (go_at_call 13; refine (is_plain _ _ _ _ (by exact hg7)).mono ?_; rintro e W8 ⟨rfl, hb8⟩))
                  go_ret
                  first
                    | exact ⟨rfl, k2'.trans (hb8.mono k2'.size)⟩
                    | exact ⟨rfl, (Below_drewN k2' _).trans (hb8.mono k2'.size)⟩
                · by_cases hst : (md 0).st.tmod 3 = (md 1).st.tmod 3
                  · obtain rfl := HR.out hsm hsg hst
                    go_wp2_with (first
                        | (go_at_call 11; refine (KSt.calls K7' (md 0).x true HQ.out).mono ?_; rintro e w' ⟨rfl, rfl⟩)
                        | (go_at_call 13; refine (is_plain _ _ _ _ (by exact hg7)).mono ?_; rintro e W8 ⟨rfl, hb8⟩))
                    go_quiet (fail)
                    go_wp2_with (first
                        | (go_at_call 11; refine (KSt.calls K7' (md 0).x true HQ.out).mono ?_; rintro e w' ⟨rfl, rfl⟩)
                        | (go_at_call 13; refine (is_plain _ _ _ _ (by exact hg7)).mono ?_; rintro e W8 ⟨rfl, hb8⟩))
                    go_quiet (first | (go_at_call 12; refine (equal_q HS (by exact y0) (by exact y1)).mono ?_; rintro e w9 ⟨rfl, rfl⟩; exact ⟨rfl, _, rfl⟩))
                    go_wp2_with (first
                        | (go_at_call 11; refine (KSt.calls K7' (md 0).x true HQ.out).mono ?_; rintro e w' ⟨rfl, rfl⟩)
                        | (go_at_call 13; refine (is_plain _ _ _ _ (by exact hg7)).mono ?_; rintro e W8 ⟨rfl, hb8⟩))
                    go_ret
                    first
                      | exact ⟨rfl, k2'.trans (hb8.mono k2'.size)⟩
                      | exact ⟨rfl, (Below_drewN k2' _).trans (hb8.mono k2'.size)⟩
                  · have hs1 : ((md 0).st.tmod 3 == (md 1).st.tmod 3) = false := beq_eq_false_iff_ne.2 hst
                    go_wp2_with (first
                        | (go_at_call 11; refine (KSt.calls K7' (md 0).x true HQ.out).mono ?_; rintro e w' ⟨rfl, rfl⟩)
                        | (go_at_call 13; refine (is_plain _ _ _ _ (by exact hg7)).mono ?_; rintro e W8 ⟨rfl, hb8⟩))
                    go_quiet (fail)
                    go_wp2_with (first
                        | (go_at_call 11; refine (KSt.calls K7' (md 0).x true HQ.out).mono ?_; rintro e w' ⟨rfl, rfl⟩)
                        | (go_at_call 13; refine (is_plain _ _ _ _ (by exact hg7)).mono ?_; rintro e W8 ⟨rfl, hb8⟩))
                    go_ret
                    first
                      | exact ⟨rfl, k2'.trans (hb8.mono k2'.size)⟩
                      | exact ⟨rfl, (Below_drewN k2' _).trans (hb8.mono k2'.size)⟩
      · rw [hc] at hans2
        have HC0 : Hid (c2 md q same = 1) := hc
        clear hc
        obtain ⟨⟨g, h, rfl, gc, hgc⟩, hb7⟩ : IsNoKey (md 0).x e W6 W7 := hans2
        obtain ⟨k1, k2, k3⟩ := H6.tail hb7
        have K7 := K6.below hb7
        clear hb7
        obtain ⟨bb', off', eo, d0, -, -, -, -, -, -, -, -, -⟩ := HC.below k2 0 (by omega)
        cases eo
        simp only [Nat.zero_mul, Nat.add_zero] at d0
        go_wp2_with (go_at_call 5; refine (name_x (md 0) _).mono ?_; rintro e W7 ⟨rfl, rfl⟩)
        clear d0
        go_loopg [99, 17, 18, 19] 2 (fun g s99 s17 s18 s19 wr2 => ∃ j, j + g = 2 ∧ s99 = .int .i64 j ∧ s17 = .bool (AP md j) ∧ s18 = .bool (SM md j) ∧ s19 = .bool (SG md j) ∧ Below W7.heap.size W7 wr2)
        case atStart => exact ⟨0, rfl, rfl, rfl, rfl, rfl, Below.refl _ _⟩
        case round =>
          obtain ⟨j, hj, rfl, rfl, rfl, rfl, hbw⟩ := hrel
          have HJ2 : Hid (j + gk = 2) := hj
          clear hj
          have k2' := k2.trans (hbw.mono k2.size)
          by_cases hj2 : j < 2
          · have hji : (j : Int) < 2 := by omega
            obtain ⟨bb', off', eo, d0, d1, d2, d3, d4, d5, -, -, -, -⟩ := HC.below k2' j hj2
            cases eo
            unfold ZM.v at d3
            have tb : bb < wr.heap.size := World.block_lt_of_cell? wr _ d0
            clear HC
            have hxx : (md j).x = (md 0).x ∨ ((md j).x == (md 0).x) = false := by cases (md j).x <;> cases (md 0).x <;> simp
            rcases hxx with hxx | hxx
            all_goals cases hpj : (md j).p
            all_goals cases hoj : (md j).ok
            all_goals
              go_wp2_with (first
                | (go_at_call 5; refine (name_x (md j) _).mono ?_; rintro e w' ⟨rfl, rfl⟩)
                | (go_at_call 6; refine (pname_p (md j) _).mono ?_; rintro e w' ⟨rfl, rfl⟩))
              go_roundg (gk - 1)
              case measure =>
                have := HJ2.out
                omega
              case rel =>
                have := HJ2.out
                exact ⟨j + 1, by omega, by go_num, by simp [AP, hpj], by simp [SM, hxx], by simp [SG, hoj], hbw.alloc hbw.size _⟩
          · obtain rfl : j = 2 := by have := HJ2.out; omega
            clear HJ2
            have k1' := cell1_below hbw k3 k1
            have K7' := K7.below hbw
            have hg7 := hg.below k2' hg.lt
            obtain ⟨bb', off', eo, -, -, d2, d3, -, -, y0, -, -, -⟩ := HC.below k2' 0 (by omega)
            cases eo
            obtain ⟨bb', off', eo, -, -, f2, f3, -, -, y1, -, -, -⟩ := HC.below k2' 1 (by omega)
            cases eo
            unfold ZM.v at d3 f3 y0 y1
            simp only [Nat.zero_mul, Nat.add_zero, Nat.one_mul] at d2 d3 f2 f3
            clear k1 K7 HC
            have gc' := (hbw.cell (p := ⟨g, 0, none⟩) (World.block_lt_of_cell? W7 _ gc)).trans gc
            have hc' := (hbw.cell (p := ⟨h, 0, none⟩) (World.block_lt_of_cell? W7 _ hgc)).trans hgc
            obtain ⟨hap, rfl⟩ := c2_1 HC0.out
            go_wp2_with (first
                | (go_at_call 11; refine (KSt.calls K7' (md 0).x false HQ.out).mono ?_; rintro e w' ⟨rfl, rfl⟩)
                | (go_at_call 13; refine (is_nokey g h 1 _ _ _ (by exact hg7) (by exact gc') (by exact hc')).mono ?_; rintro e W8 ⟨rfl, hb8⟩))
            go_ret
            first
              | exact ⟨rfl, k2'.trans (hb8.mono k2'.size)⟩
              | exact ⟨rfl, (Below_drewN k2' _).trans (hb8.mono k2'.size)⟩
      · rw [hc] at hans2
        have HC0 : Hid (c2 md q same = 2) := hc
        clear hc
        obtain ⟨rfl, hb7⟩ : IsNil e W6 W7 := hans2
        obtain ⟨k1, k2, k3⟩ := H6.tail hb7
        have K7 := K6.below hb7
        clear hb7
        obtain ⟨bb', off', eo, d0, -, -, -, -, -, -, -, -, -⟩ := HC.below k2 0 (by omega)
        cases eo
        simp only [Nat.zero_mul, Nat.add_zero] at d0
        go_wp2_with (go_at_call 5; refine (name_x (md 0) _).mono ?_; rintro e W7 ⟨rfl, rfl⟩)
        clear d0
        go_loopg [99, 17, 18, 19] 2 (fun g s99 s17 s18 s19 wr2 => ∃ j, j + g = 2 ∧ s99 = .int .i64 j ∧ s17 = .bool (AP md j) ∧ s18 = .bool (SM md j) ∧ s19 = .bool (SG md j) ∧ Below W7.heap.size W7 wr2)
        case atStart => exact ⟨0, rfl, rfl, rfl, rfl, rfl, Below.refl _ _⟩
        case round =>
          obtain ⟨j, hj, rfl, rfl, rfl, rfl, hbw⟩ := hrel
          have HJ2 : Hid (j + gk = 2) := hj
          clear hj
          have k2' := k2.trans (hbw.mono k2.size)
          by_cases hj2 : j < 2
          · have hji : (j : Int) < 2 := by omega
            obtain ⟨bb', off', eo, d0, d1, d2, d3, d4, d5, -, -, -, -⟩ := HC.below k2' j hj2
            cases eo
            unfold ZM.v at d3
            have tb : bb < wr.heap.size := World.block_lt_of_cell? wr _ d0
            clear HC
            have hxx : (md j).x = (md 0).x ∨ ((md j).x == (md 0).x) = false := by cases (md j).x <;> cases (md 0).x <;> simp
            rcases hxx with hxx | hxx
            all_goals cases hpj : (md j).p
            all_goals cases hoj : (md j).ok
            all_goals
              go_wp2_with (first
                | (go_at_call 5; refine (name_x (md j) _).mono ?_; rintro e w' ⟨rfl, rfl⟩)
                | (go_at_call 6; refine (pname_p (md j) _).mono ?_; rintro e w' ⟨rfl, rfl⟩))
              go_roundg (gk - 1)
              case measure =>
                have := HJ2.out
                omega
              case rel =>
                have := HJ2.out
                exact ⟨j + 1, by omega, by go_num, by simp [AP, hpj], by simp [SM, hxx], by simp [SG, hoj], hbw.alloc hbw.size _⟩
          · obtain rfl : j = 2 := by have := HJ2.out; omega
            clear HJ2
            have k1' := cell1_below hbw k3 k1
            have K7' := K7.below hbw
            have hg7 := hg.below k2' hg.lt
            obtain ⟨bb', off', eo, -, -, d2, d3, -, -, y0, -, -, -⟩ := HC.below k2' 0 (by omega)
            cases eo
            obtain ⟨bb', off', eo, -, -, f2, f3, -, -, y1, -, -, -⟩ := HC.below k2' 1 (by omega)
            cases eo
            unfold ZM.v at d3 f3 y0 y1
            simp only [Nat.zero_mul, Nat.add_zero, Nat.one_mul] at d2 d3 f2 f3
            clear k1 K7 HC
            obtain ⟨hap, rfl, hsm, hsg, hst, rfl⟩ := c2_2 HC0.out
            unfold ZM.s at hst
            go_wp2_with (first
                | (go_at_call 11; refine (KSt.calls K7' (md 0).x true HQ.out).mono ?_; rintro e w' ⟨rfl, rfl⟩)
                | (go_at_call 13; refine (is_nil _ _ _).mono ?_; rintro e W8 ⟨rfl, hb8⟩))
            go_quiet (fail)
            go_wp2_with (first
                | (go_at_call 11; refine (KSt.calls K7' (md 0).x true HQ.out).mono ?_; rintro e w' ⟨rfl, rfl⟩)
                | (go_at_call 13; refine (is_nil _ _ _).mono ?_; rintro e W8 ⟨rfl, hb8⟩))
            go_quiet (first | (go_at_call 12; refine (equal_q HS (by exact y0) (by exact y1)).mono ?_; rintro e w9 ⟨rfl, rfl⟩; exact ⟨rfl, _, rfl⟩))
            go_wp2_with (first
                | (go_at_call 11; refine (KSt.calls K7' (md 0).x true HQ.out).mono ?_; rintro e w' ⟨rfl, rfl⟩)
                | (go_at_call 13; refine (is_nil _ _ _).mono ?_; rintro e W8 ⟨rfl, hb8⟩))
            go_ret
            first
              | exact ⟨rfl, k2'.trans (hb8.mono k2'.size)⟩
              | exact ⟨rfl, (Below_drewN k2' _).trans (hb8.mono k2'.size)⟩
end Go.Proofs.YbulkcegsFmt
