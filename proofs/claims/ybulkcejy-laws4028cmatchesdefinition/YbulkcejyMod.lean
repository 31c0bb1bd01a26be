import Derived.Test.YbulkcejyDia
import Derived.Test.YbulkcejyMask
namespace Go.Proofs.Ybulkcejy
open Go.RowKit
set_option linter.unusedVariables false
attribute [local go_sem] Oper.semAt_some
attribute [local go_sem ↓] Go.wp_at_zero Go.wp_at_succ

theorem bits_bit (k u : Nat) (hk : k ≤ 1024) : bits .and .i64 ((k : Int) / 2 ^ u) 1 = if k.testBit u then 1 else 0 := by
  have e0 : ((k : Int) / 2 ^ u) = ((k / 2 ^ u : Nat) : Int) := by push_cast; rfl
  have hq : k / 2 ^ u ≤ 1024 := Nat.le_trans (Nat.div_le_self _ _) hk
  rw [e0]
  generalize hqe : k / 2 ^ u = q at hq
  have e : (BitVec.ofInt 64 (q : Int) &&& BitVec.ofInt 64 1).toNat = q % 2 := by
    rw [BitVec.toNat_and]
    simp
  have ht : k.testBit u = decide (q % 2 = 1) := by rw [Nat.testBit_eq_decide_div_mod_eq, hqe]
  show IntKind.wrap .i64 ((BitVec.ofInt 64 (q : Int) &&& BitVec.ofInt 64 1).toNat : Int) = _
  rw [e, wrap_small (q % 2) (by omega), ht]
  by_cases h : q % 2 = 1
  · simp [h]
  · have : q % 2 = 0 := by omega
    simp [this]
theorem sumTo_mul2 (f : Nat → Int) : ∀ n, sumTo (fun u => 2 * f u) n = 2 * sumTo f n
  | 0 => rfl
  | n + 1 => by
    have := sumTo_mul2 f n
    simp only [sumTo] at this ⊢
    omega
theorem cost_split (n : Nat) (ts : List (Nat × Nat)) (D : Nat → Bool) : cost n ts D = sumTo (fun u => b2i (D u)) n + 2 * sumTo (fun u => b2i (TD ts D u)) n := by
  unfold cost
  rw [sumTo_add, sumTo_mul2]
theorem b2i_le (f : Nat → Bool) : ∀ n, 0 ≤ sumTo (fun u => b2i (f u)) n ∧ sumTo (fun u => b2i (f u)) n ≤ n
  | 0 => by simp [sumTo]
  | n + 1 => by
    have := b2i_le f n
    have h2 : b2i (f n) = 0 ∨ b2i (f n) = 1 := by cases f n <;> simp [b2i]
    simp only [sumTo]
    push_cast
    omega
theorem TD_step {ts : List (Nat × Nat)} {D : Nat → Bool} {j x y : Nat} (h : ts[j]? = some (x, y)) (u : Nat) : TD (ts.take (j + 1)) D u = (TD (ts.take j) D u || (u == x && !D x && D y)) := by
  unfold TD
  rw [List.take_add_one, h]
  simp only [Option.toList_some, List.any_append, List.any_cons, List.any_nil, Bool.or_false]
  by_cases e : u = x
  · subst e
    simp
    cases D u <;> simp
  · have e1 : (u == x) = false := by simpa using e
    have e2 : (x == u) = false := by simpa using Ne.symm e
    rw [e1, e2]
    simp
/-- The row of marks. -/
structure MK (w : World) (bm n : Nat) (f : Nat → Bool) : Prop where
  lt : bm < w.heap.size
  c : ∀ u, u < n → w.cell? ⟨bm, u, none⟩ = some (.bool (f u))
  z : ∀ u, u < n → w.frozen? ⟨bm, u, none⟩ = false
theorem MK.grow {w w' : World} {bm n : Nat} {f : Nat → Bool} (h : MK w bm n f) (hb : Below w.heap.size w w') : MK w' bm n f :=
  ⟨Nat.lt_of_lt_of_le h.lt hb.size, fun u hu => (hb.cell (p := ⟨bm, u, none⟩) h.lt).trans (h.c u hu), fun u hu => (World.frozen?_of_block (a := ⟨bm, u, none⟩) (hb.block bm h.lt)).trans (h.z u hu)⟩
theorem MK.congr {w : World} {bm n : Nat} {f g : Nat → Bool} (h : MK w bm n f) (e : ∀ u, g u = f u) : MK w bm n g := ⟨h.lt, fun u hu => by rw [e]; exact h.c u hu, h.z⟩
theorem MK.set {w : World} {bm n x : Nat} {f : Nat → Bool} (h : MK w bm n f) (hx : x < n) : MK (w.setCell ⟨bm, x, none⟩ (.bool true)) bm n (fun u => f u || u == x) := by
  refine ⟨by simpa using h.lt, fun u hu => ?_, fun u hu => ?_⟩
  · by_cases e : u = x
    · subst e
      rw [World.cell?_setCell_same' _ _ _ (by rw [h.c u hu]; rfl)]
      simp
    · rw [World.cell?_setCell_other _ _ _ _ (fun q => e (by cases q; rfl)), h.c u hu]
      have : (u == x) = false := by simpa using e
      rw [this, Bool.or_false]
  · have := h.z u hu
    simpa using this
theorem MK.made {w : World} {n : Nat} : MK (w.alloc (.cells (madeCells #[.bool false] n) 4)) w.heap.size n (fun _ => false) := by
  have hh := World.alloc_heap_new w (.cells (madeCells #[.bool false] n) 4)
  refine ⟨by simp, fun u hu => ?_, fun u hu => ?_⟩
  · rw [cell_of_row _ _ u _ _ (0, 0) hh, ← Array.getElem?_toList, made_list, List.getElem?_replicate, if_pos hu]
  · exact frozen_of_row _ _ u _ _ hh
def ModOut (W : World) (n : Nat) (ts : List (Nat × Nat)) (e : Ending) (W' : World) : Prop := ∃ h : Nat, e = .returned (.int .i64 (((h : Int) - 1).tdiv 2)) ∧ IsH n ts (Some' n) (h : Int) ∧ Below W.heap.size W W'

set_option maxRecDepth 100000 in
set_option maxHeartbeats 8000000 in
theorem model_calls (W : World) (n : Nat) (ts : List (Nat × Nat)) (ta : Option Addr) (tb tc : Nat) (htb : tb < W.heap.size) (hT : ∀ k, k < ts.length → ta = some ⟨tb, 0, none⟩ ∧ W.cell? ⟨tb, k * 2, none⟩ = some (.int .i64 ((ts.getD k (0, 0)).1 : Int)) ∧ W.cell? ⟨tb, k * 2 + 1, none⟩ = some (.int .i64 ((ts.getD k (0, 0)).2 : Int))) (hn1 : 1 ≤ n) (hn : n ≤ 10) (ht : ∀ t, t ∈ ts → t.1 < n ∧ t.2 < n) (hts : ts.length ≤ 200) :
    Calls Yba.prog 7 #[.int .i64 (n : Int), .slice ta ts.length tc] W (ModOut W n ts) := by
  have HT : Hid (∀ k, k < ts.length → ta = some ⟨tb, 0, none⟩ ∧ W.cell? ⟨tb, k * 2, none⟩ = some (.int .i64 ((ts.getD k (0, 0)).1 : Int)) ∧ W.cell? ⟨tb, k * 2 + 1, none⟩ = some (.int .i64 ((ts.getD k (0, 0)).2 : Int))) := hT
  clear hT
  have m27 := make27 n (by omega)
  have hn0 : (0 : Int) ≤ (n : Int) := by omega
  have hn9 : (n : Int) ≤ 10 := by omega
  obtain ⟨p, hp⟩ : ∃ p, 2 ^ n = p := ⟨_, rfl⟩
  have hp1 : p ≤ 1024 := by rw [← hp]; exact Nat.pow_le_pow_right (by omega) hn
  have hp0 : 1 ≤ p := by rw [← hp]; exact Nat.one_le_two_pow
  have hwp : wrap64 ((2 : Int) ^ n) = (p : Int) := by
    have e : ((2 : Int) ^ n) = (p : Int) := by rw [← hp]; push_cast; rfl
    rw [e]
    unfold wrap64
    omega
  go_enter Yba.func7, Yba.ntmps7
  go_wp2_with fail
  go_loopg [6, 5] (p - 1) (fun g s6 s5 wr => ∃ (k hh : Nat), k + g = p ∧ 1 ≤ k ∧ s6 = .int .i64 (k : Int) ∧ s5 = .int .i64 (hh : Int) ∧ hh ≤ n ∧ (∀ k', 1 ≤ k' → k' < k → (hh : Int) ≤ cost n ts (fun u => k'.testBit u)) ∧ (hh = n ∨ ∃ k', 1 ≤ k' ∧ k' < p ∧ cost n ts (fun u => k'.testBit u) ≤ (hh : Int)) ∧ Below W.heap.size W wr)
  case atStart => exact ⟨1, n, by omega, by omega, rfl, rfl, by omega, fun k' h1 h2 => absurd h2 (by omega), .inl rfl, Below.refl _ _⟩
  case round =>
    obtain ⟨k, hh, hkg, hk1, rfl, rfl, hhn, hall, hex, hbw⟩ := hrel
    have HG : Hid (k + gk = p) := hkg
    have HALL : Hid (∀ k', 1 ≤ k' → k' < k → (hh : Int) ≤ cost n ts (fun u => k'.testBit u)) := hall
    have HEX : Hid (hh = n ∨ ∃ k', 1 ≤ k' ∧ k' < p ∧ cost n ts (fun u => k'.testBit u) ≤ (hh : Int)) := hex
    have hkp : k ≤ p := by omega
    clear hkg hall hex
    by_cases hk : k < p
    · have hki : (k : Int) < (p : Int) := by omega
      have hkb : (k : Int) ≤ 1024 := by omega
      have hk0 : (0 : Int) ≤ (k : Int) := by omega
      go_wp2_with fail
      go_loopg [7, 8] n (fun g s7 s8 wq => ∃ (u sz : Nat), u + g = n ∧ s8 = .int .i64 (u : Int) ∧ s7 = .int .i64 (sz : Int) ∧ (sz : Int) = sumTo (fun u => b2i (k.testBit u)) u ∧ wq = wr)
      case atStart => exact ⟨0, 0, by omega, rfl, rfl, rfl, rfl⟩
      case round =>
        obtain ⟨u, sz, hug, rfl, rfl, hsz, rfl⟩ := hrel
        have HU : Hid (u + gk = n) := hug
        have HS : Hid ((sz : Int) = sumTo (fun u => b2i (k.testBit u)) u) := hsz
        have hul : u ≤ n := by omega
        have hszb : (sz : Int) ≤ 10 := by have := (b2i_le (fun u => k.testBit u) u).2; omega
        clear hug hsz
        by_cases hu : u < n
        · have hui : (u : Int) < (n : Int) := by omega
          have hu0 : (0 : Int) ≤ (u : Int) := by omega
          have hu9 : (u : Int) ≤ 10 := by omega
          have hbt := bits_bit k u (by omega)
          cases hD : k.testBit u
          · rw [hD] at hbt
            simp only [Bool.false_eq_true, if_false] at hbt
            go_wp2_with fail
            go_roundg (gk - 1)
            case measure =>
              have := HU.out
              omega
            case rel =>
              have := HU.out
              refine ⟨u + 1, sz, by omega, by push_cast; rfl, rfl, ?_, rfl⟩
              have e := HS.out
              simp only [sumTo, hD]
              simp only [b2i] at e ⊢
              simp
              omega
          · rw [hD] at hbt
            simp only [if_true] at hbt
            go_wp2_with fail
            go_roundg (gk - 1)
            case measure =>
              have := HU.out
              omega
            case rel =>
              have := HU.out
              refine ⟨u + 1, sz + 1, by omega, by push_cast; rfl, by push_cast; rfl, ?_, rfl⟩
              have e := HS.out
              simp only [sumTo, hD]
              simp only [b2i] at e ⊢
              push_cast
              simp
              omega
        · have hui : ¬ (u : Int) < (n : Int) := by omega
          obtain rfl : n = u := by omega
          clear HU
          go_wp2_with fail
          have hM0 : MK (wr.alloc (.cells (madeCells #[.bool false] n) 4)) wr.heap.size n (TD (ts.take 0) (fun u => k.testBit u)) := MK.made.congr (fun u => by simp [TD])
          have hC0 : (((0 : Nat) : Int)) = sumTo (fun u => b2i (TD (ts.take 0) (fun u => k.testBit u) u)) n := by rw [sumTo_zero (fun u _ => by simp [TD, b2i])]; rfl
          have hbws := hbw.size
          have hb0 : Below W.heap.size W (wr.alloc (.cells (madeCells #[.bool false] n) 4)) := hbw.trans ((Below.refl _ _).alloc hbw.size _)
          go_loopg [37, 10] ts.length (fun g s37 s10 wq => ∃ (j ct : Nat), j + g = ts.length ∧ s37 = .int .i64 (j : Int) ∧ s10 = .int .i64 (ct : Int) ∧ (ct : Int) = sumTo (fun u => b2i (TD (ts.take j) (fun u => k.testBit u) u)) n ∧ MK wq wr.heap.size n (TD (ts.take j) (fun u => k.testBit u)) ∧ Below W.heap.size W wq)
          case atStart => exact ⟨0, 0, by omega, rfl, rfl, hC0, hM0, hb0⟩
          case round =>
            clear hM0 hC0 hb0
            obtain ⟨j, ct, hjg, rfl, rfl, hct, hMK, hbq⟩ := hrel
            have HJ : Hid (j + gk = ts.length) := hjg
            have HC : Hid ((ct : Int) = sumTo (fun u => b2i (TD (ts.take j) (fun u => k.testBit u) u)) n) := hct
            have hctb : (ct : Int) ≤ 10 := by have := (b2i_le (fun u => TD (ts.take j) (fun u => k.testBit u) u) n).2; omega
            have hjl : j ≤ ts.length := by omega
            clear hjg hct
            by_cases hj : j < ts.length
            · have hji : (j : Int) < (ts.length : Int) := by omega
              obtain ⟨hta, t0, t1⟩ := HT.out j hj
              subst hta
              have t0' := (hbq.cell (p := ⟨tb, j * 2, none⟩) htb).trans t0
              have t1' := (hbq.cell (p := ⟨tb, j * 2 + 1, none⟩) htb).trans t1
              clear t0 t1
              obtain ⟨x, hxe⟩ : ∃ x, (ts.getD j (0, 0)).1 = x := ⟨_, rfl⟩
              obtain ⟨y, hye⟩ : ∃ y, (ts.getD j (0, 0)).2 = y := ⟨_, rfl⟩
              have hxy := ht _ (getD_in hj)
              have HXY : Hid (ts[j]? = some (x, y)) := by
                show ts[j]? = some (x, y)
                rw [← hxe, ← hye, List.getD_eq_getElem?_getD, List.getElem?_eq_getElem hj]
                rfl
              rw [hxe] at t0' hxy
              rw [hye] at t1' hxy
              obtain ⟨hx, hy⟩ := hxy
              clear hxe hye
              have hxi : (x : Int) < (n : Int) := by omega
              have hyi : (y : Int) < (n : Int) := by omega
              have hby := bits_bit k y (by omega)
              have hbx := bits_bit k x (by omega)
              have hmc := hMK.c x hx
              have hml := hMK.lt
              cases hDy : k.testBit y
              · rw [hDy] at hby
                simp only [Bool.false_eq_true, if_false] at hby
                clear hbx
                go_wp2_with fail
                go_roundg (gk - 1)
                case measure =>
                  have := HJ.out
                  omega
                case rel =>
                  have := HJ.out
                  have hTD : ∀ u, TD (ts.take (j + 1)) (fun u => k.testBit u) u = TD (ts.take j) (fun u => k.testBit u) u := fun u => by
                    rw [TD_step HXY.out]
                    simp [hDy]
                  exact ⟨j + 1, ct, by omega, by push_cast; rfl, rfl, by rw [HC.out]; exact sumTo_congr (fun u _ => by rw [hTD]), (hMK.congr hTD).grow ((Below.refl _ _).alloc (Nat.le_refl _) _), hbq.trans ((Below.refl _ _).alloc hbq.size _)⟩
              · rw [hDy] at hby
                simp only [if_true] at hby
                cases hDx : k.testBit x
                · rw [hDx] at hbx
                  simp only [Bool.false_eq_true, if_false] at hbx
                  cases hmx : TD (ts.take j) (fun u => k.testBit u) x
                  · rw [hmx] at hmc
                    have hzx := hMK.z x hx
                    go_wp2_with fail
                    go_roundg (gk - 1)
                    case measure =>
                      have := HJ.out
                      omega
                    case rel =>
                      have := HJ.out
                      have hTD : ∀ u, TD (ts.take (j + 1)) (fun u => k.testBit u) u = (TD (ts.take j) (fun u => k.testBit u) u || u == x) := fun u => by
                        rw [TD_step HXY.out]
                        simp [hDy, hDx]
                      have hbA : Below wr.heap.size wr (wr.alloc (.cells #[.int .i64 (x : Int), .int .i64 (y : Int)] 39)) := (Below.refl _ _).alloc (Nat.le_refl _) _
                      have hsum : sumTo (fun u => b2i (TD (ts.take (j + 1)) (fun u => k.testBit u) u)) n = sumTo (fun u => b2i (TD (ts.take j) (fun u => k.testBit u) u)) n + 1 := by
                        have e1 : sumTo (fun u => b2i (TD (ts.take (j + 1)) (fun u => k.testBit u) u)) n = sumTo (upd (fun u => b2i (TD (ts.take j) (fun u => k.testBit u) u)) x 1) n := sumTo_congr (fun u _ => by
                          rw [hTD]
                          unfold upd
                          by_cases e : u = x
                          · subst e
                            simp [b2i]
                          · have e2 : (u == x) = false := by simpa using e
                            rw [e2, Bool.or_false, if_neg e])
                        rw [e1, sumTo_upd, if_pos hx, hmx]
                        simp [b2i]
                      refine ⟨j + 1, ct + 1, by omega, by push_cast; rfl, by push_cast; rfl, by rw [hsum]; have := HC.out; push_cast; omega, ((hMK.set hx).grow ((Below.refl _ _).alloc (Nat.le_refl _) _)).congr hTD, hbq.trans (((Below.refl _ _).setCell hbws _).trans ((Below.refl _ _).alloc (by simpa using hbq.size) _))⟩
                  · rw [hmx] at hmc
                    go_wp2_with fail
                    go_roundg (gk - 1)
                    case measure =>
                      have := HJ.out
                      omega
                    case rel =>
                      have := HJ.out
                      have hTD : ∀ u, TD (ts.take (j + 1)) (fun u => k.testBit u) u = TD (ts.take j) (fun u => k.testBit u) u := fun u => by
                        rw [TD_step HXY.out]
                        by_cases e : u = x
                        · subst e
                          simp [hmx]
                        · simp [e]
                      exact ⟨j + 1, ct, by omega, by push_cast; rfl, rfl, by rw [HC.out]; exact sumTo_congr (fun u _ => by rw [hTD]), (hMK.congr hTD).grow ((Below.refl _ _).alloc (Nat.le_refl _) _), hbq.trans ((Below.refl _ _).alloc hbq.size _)⟩
                · rw [hDx] at hbx
                  simp only [if_true] at hbx
                  go_wp2_with fail
                  go_roundg (gk - 1)
                  case measure =>
                    have := HJ.out
                    omega
                  case rel =>
                    have := HJ.out
                    have hTD : ∀ u, TD (ts.take (j + 1)) (fun u => k.testBit u) u = TD (ts.take j) (fun u => k.testBit u) u := fun u => by
                      rw [TD_step HXY.out]
                      simp [hDx]
                    exact ⟨j + 1, ct, by omega, by push_cast; rfl, rfl, by rw [HC.out]; exact sumTo_congr (fun u _ => by rw [hTD]), (hMK.congr hTD).grow ((Below.refl _ _).alloc (Nat.le_refl _) _), hbq.trans ((Below.refl _ _).alloc hbq.size _)⟩
            · have hji : ¬ (j : Int) < (ts.length : Int) := by omega
              obtain rfl : ts.length = j := by omega
              have hcost : cost n ts (fun u => k.testBit u) = (sz : Int) + 2 * (ct : Int) := by
                have h1 := HC.out
                rw [List.take_length] at h1
                rw [cost_split, ← HS.out, ← h1]
              have HCO : Hid (cost n ts (fun u => k.testBit u) = (sz : Int) + 2 * (ct : Int)) := hcost
              clear hcost
              by_cases hlt : (sz : Int) + 2 * (ct : Int) < (hh : Int)
              · go_wp2_with fail
                go_roundg (p - k - 1)
                case measure =>
                  have := HG.out
                  omega
                case rel =>
                  have := HG.out
                  have hco := HCO.out
                  refine ⟨k + 1, sz + 2 * ct, by omega, by omega, by push_cast; rfl, by push_cast; rfl, by omega, fun k' h1 h2 => ?_, .inr ⟨k, hk1, hk, by rw [hco]; push_cast; omega⟩, hbq⟩
                  by_cases e : k' = k
                  · rw [e, hco]
                    push_cast
                    omega
                  · have := HALL.out k' h1 (by omega)
                    push_cast
                    omega
              · go_wp2_with fail
                go_roundg (p - k - 1)
                case measure =>
                  have := HG.out
                  omega
                case rel =>
                  have := HG.out
                  have hco := HCO.out
                  refine ⟨k + 1, hh, by omega, by omega, by push_cast; rfl, rfl, hhn, fun k' h1 h2 => ?_, HEX.out, hbq⟩
                  by_cases e : k' = k
                  · rw [e, hco]
                    omega
                  · exact HALL.out k' h1 (by omega)
    · have hki : ¬ (k : Int) < (p : Int) := by omega
      obtain rfl : p = k := by omega
      have hhi : (hh : Int) ≤ 10 := by omega
      go_wp2_with fail
      go_ret
      exact ⟨hh, rfl, model_h ht (by omega) (fun k' h1 h2 => HALL.out k' h1 (by omega)) (HEX.out.elim (fun q => .inl (by omega)) (fun ⟨k', a, b, c⟩ => .inr ⟨k', a, by omega, c⟩)), hbw⟩
end Go.Proofs.Ybulkcejy
