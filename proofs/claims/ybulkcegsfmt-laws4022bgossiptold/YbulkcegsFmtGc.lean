import Derived.Test.YbulkcegsFmtGb
namespace Go.Proofs.YbulkcegsFmt
open Go.RowKit Go.Shelf Go.Extern.Stop Go.Stop Go.Extern
set_option linter.unusedVariables false
attribute [local go_sem] Oper.semAt_some
attribute [local go_sem ↓] Go.wp_at_zero Go.wp_at_succ

def IsNilA (e : Ending) (w w' : World) : Prop := e = .returned .nilIface ∧ Below w.heap.size w w'

set_option maxRecDepth 100000 in
set_option maxHeartbeats 4000000 in
theorem verify_no (kb : Nat) (ks : List Bool) (x p : Bool) (st : Int) (b n : Nat) (hq : Hid (false = ks.contains x)) (w : World) (hk : KeysAt w kb ks) :
    Calls Ybaf.prog 33 #[keysV kb, msgV x p st b n] w fun e w' => IsNoKey x e w w' := by
  unfold keysV msgV
  have hk2 := hk.below (((Below.refl w.heap.size w).alloc (Nat.le_refl _) (.cells #[.func (.func 23) #[] #[.pointer (some ⟨kb, 0, none⟩)], .func (.func 24) #[] #[]] 51)).alloc (by simp) (.cells (msgC x p st b n) 34))
  unfold msgC at hk2
  have t1 : w.heap.size + 1 < w.heap.size + 1 + 1 := by omega
  go_enter Ybaf.func33, Ybaf.ntmps33
  go_wp2_with (first
    | (go_at_call 23; refine (keyOf_no hq hk2).mono ?_; rintro e W9 ⟨rfl, hb9⟩; have cb : W9.cell? ⟨w.heap.size + 1, 0, none⟩ = some (.string (nm x)) := (hb9.cell (p := ⟨w.heap.size + 1, 0, none⟩) (by simp)).trans (by go_simp))
    | (go_at_call 19; refine (noKeyFor_calls _ _).mono ?_; rintro e w' ⟨rfl, rfl⟩))
  go_ret
  refine ⟨⟨W9.heap.size + 1, W9.heap.size, rfl, by go_simp, by go_simp⟩, ?_⟩
  have hs9 := hb9.size
  simp only [World.size_alloc] at hs9
  refine Below.alloc (Below.alloc (Below.trans ?_ (hb9.mono (by simp; omega))) (by omega) _) (by simp; omega) _
  repeat (first | exact Below.refl _ _ | apply Below.drew | refine Below.setCell ?_ (by simp) _ | refine Below.alloc ?_ (by first | omega | (simp <;> omega)) _)

set_option maxRecDepth 100000 in
set_option maxHeartbeats 4000000 in
theorem verify_yes (F : Interp) (kb : Nat) (ks : List Bool) (x p : Bool) (st : Int) (b : Nat) (xs : List Int) (ok : Bool) (hq : Hid (true = ks.contains x)) (w : World) (hF : F.answers w.tape) (hk : KeysAt w kb ks) (hd : DataAt w b xs ok) (hxs : xs.length ≤ 140737488351232) :
    Calls Ybaf.prog 33 #[keysV kb, msgV x p st b (xs.length + 64)] w fun e w' => if ok then IsNilA e w w' else IsPlain e w w' := by
  unfold keysV msgV
  have hb2 : Below w.heap.size w ((w.alloc (.cells #[.func (.func 23) #[] #[.pointer (some ⟨kb, 0, none⟩)], .func (.func 24) #[] #[]] 51)).alloc (.cells (msgC x p st b (xs.length + 64)) 34)) := ((Below.refl w.heap.size w).alloc (Nat.le_refl _) _).alloc (by simp) _
  have hk2 := hk.below hb2
  have hd2 := hd.below hb2 hd.2.2
  unfold msgC at hk2 hd2 hb2
  have t1 : w.heap.size + 1 < w.heap.size + 1 + 1 := by omega
  go_enter Ybaf.func33, Ybaf.ntmps33
  go_wp2_with (first
    | (go_at_call 23; refine (keyOf_yes hq hk2).mono ?_; rintro e W9 ⟨gk, rfl, hb9⟩))
  have hb10 : Below w.heap.size w W9 := hb2.trans (hb9.mono (by simp; omega))
  have hd9 := hd2.below hb9 hd2.2.2
  have cc : ∀ B o, B < w.heap.size + 1 + 1 → W9.cell? ⟨B, o, none⟩ = _ := fun B o hB => hb9.cell (p := ⟨B, o, none⟩) (by simpa using hB)
  have k1 : W9.cell? ⟨w.heap.size, 1, none⟩ = some (.func (.func 24) #[] #[]) := (cc _ _ (by omega)).trans (by go_simp)
  have m0 : W9.cell? ⟨w.heap.size + 1, 0, none⟩ = some (.string (nm x)) := (cc _ _ (by omega)).trans (by go_simp)
  have m1 : W9.cell? ⟨w.heap.size + 1, 1, none⟩ = some (.string (pn p)) := (cc _ _ (by omega)).trans (by go_simp)
  have m2 : W9.cell? ⟨w.heap.size + 1, 2, none⟩ = some (.int .u64 st) := (cc _ _ (by omega)).trans (by go_simp)
  have m3 : W9.cell? ⟨w.heap.size + 1, 3, none⟩ = some (.slice none 0 0) := (cc _ _ (by omega)).trans (by go_simp)
  have m4 : W9.cell? ⟨w.heap.size + 1, 4, none⟩ = some (.slice none 0 0) := (cc _ _ (by omega)).trans (by go_simp)
  have m5 : W9.cell? ⟨w.heap.size + 1, 5, none⟩ = some (.slice (some ⟨b, 0, none⟩) (xs.length + 64) (xs.length + 64)) := (cc _ _ (by omega)).trans (by go_simp)
  have m6 : W9.cell? ⟨w.heap.size + 1, 6, none⟩ = some (.int .i64 0) := (cc _ _ (by omega)).trans (by go_simp)
  have hs9 := hb9.size
  simp only [World.size_alloc] at hs9
  have t2 : w.heap.size < W9.heap.size := by omega
  have t3 : w.heap.size + 1 < W9.heap.size := by omega
  have t4 : b < W9.heap.size := hd9.2.2
  have e10 := hd9.2.1
  have hF9 : F.answers W9.tape := by rw [hb10.tape]; exact hF
  clear hb9 hk2 hd2 hb2 cc
  cases ok
  · simp only [Bool.false_eq_true, if_false] at e10
    go_region_held3 (fun w' => w'.cell? ⟨w.heap.size, 1, none⟩ = some (.func (.func 24) #[] #[]) ∧ w'.cell? ⟨b, xs.length + 63, none⟩ = some (.int .u8 1) ∧ w'.cell? ⟨w.heap.size + 1, 0, none⟩ = some (.string (nm x)) ∧ w'.cell? ⟨w.heap.size + 1, 1, none⟩ = some (.string (pn p)) ∧ w'.cell? ⟨w.heap.size + 1, 2, none⟩ = some (.int .u64 st) ∧ w'.cell? ⟨w.heap.size + 1, 3, none⟩ = some (.slice none 0 0) ∧ w'.cell? ⟨w.heap.size + 1, 4, none⟩ = some (.slice none 0 0) ∧ w'.cell? ⟨w.heap.size + 1, 5, none⟩ = some (.slice (some ⟨b, 0, none⟩) (xs.length + 64) (xs.length + 64)) ∧ w'.cell? ⟨w.heap.size + 1, 6, none⟩ = some (.int .i64 0)) (go_simp)
      (first | (go_at_call 38; refine (sealed_calls x p st b (xs.length + 64) (by omega) _).mono ?_; rintro e w' ⟨rfl, rfl⟩) | (go_at_call 24; refine (verifies_calls gk b (xs.length + 64) 32 (xs.length + 64) 1 _ (by omega) (by omega) (by go_simp)).mono ?_; rintro e w' ⟨rfl, rfl⟩))
    go_wp2_with (go_at_call 15; refine (efmt9 F st (nm x) _ _ (by exact hF9) (by go_simp) (by go_simp)).mono ?_; rintro e w' ⟨ad, rfl, hb⟩)
    go_ret
    exact ⟨⟨ad, rfl⟩, hb10.trans (Below.trans (by repeat (first | exact Below.refl _ _ | apply Below.drew | refine Below.alloc ?_ (by first | omega | (simp <;> omega)) _)) (hb.mono (by first | omega | (simp <;> omega))))⟩
  · simp only [if_true] at e10
    go_region_held3 (fun w' => w'.cell? ⟨w.heap.size, 1, none⟩ = some (.func (.func 24) #[] #[]) ∧ w'.cell? ⟨b, xs.length + 63, none⟩ = some (.int .u8 0) ∧ w'.cell? ⟨w.heap.size + 1, 0, none⟩ = some (.string (nm x)) ∧ w'.cell? ⟨w.heap.size + 1, 1, none⟩ = some (.string (pn p)) ∧ w'.cell? ⟨w.heap.size + 1, 2, none⟩ = some (.int .u64 st) ∧ w'.cell? ⟨w.heap.size + 1, 3, none⟩ = some (.slice none 0 0) ∧ w'.cell? ⟨w.heap.size + 1, 4, none⟩ = some (.slice none 0 0) ∧ w'.cell? ⟨w.heap.size + 1, 5, none⟩ = some (.slice (some ⟨b, 0, none⟩) (xs.length + 64) (xs.length + 64)) ∧ w'.cell? ⟨w.heap.size + 1, 6, none⟩ = some (.int .i64 0)) (go_simp)
      (first | (go_at_call 38; refine (sealed_calls x p st b (xs.length + 64) (by omega) _).mono ?_; rintro e w' ⟨rfl, rfl⟩) | (go_at_call 24; refine (verifies_calls gk b (xs.length + 64) 32 (xs.length + 64) 0 _ (by omega) (by omega) (by go_simp)).mono ?_; rintro e w' ⟨rfl, rfl⟩))
    go_wp2_with fail
    go_ret
    refine ⟨rfl, hb10.trans ?_⟩
    repeat (first | exact Below.refl _ _ | apply Below.drew | refine Below.alloc ?_ (by first | omega | (simp <;> omega)) _)

theorem failed_nil (nb : Nat) (w : World) : Calls Ybaf.prog 31 #[.nilIface, .pointer (some ⟨nb, 0, none⟩)] w fun e w' => e = .returned (.bool false) ∧ Below w.heap.size w w' := by
  go_enter Ybaf.func31, Ybaf.ntmps31
  go_wp2_with (go_at_call 20; refine (fails_nil _).mono ?_; rintro e W1 ⟨rfl, hb1⟩)
  go_ret
  exact ⟨rfl, hb1⟩
theorem failed_plain (nb : Nat) (a : Addr) (w : World) (hg : ErrT w) : Calls Ybaf.prog 31 #[.iface 66 (.pointer (some a)), .pointer (some ⟨nb, 0, none⟩)] w fun e w' => e = .returned (.bool true) ∧ Below w.heap.size w w' := by
  go_enter Ybaf.func31, Ybaf.ntmps31
  go_wp2_with (first
    | (go_at_call 20; refine (fails_plain a _ hg).mono ?_; rintro e W1 ⟨rfl, hb1⟩; have hg1 := hg.below hb1 hg.lt)
    | (go_at_call 20; refine (fails_plain a _ hg1).mono ?_; rintro e W2 ⟨rfl, hb2⟩))
  go_ret
  exact ⟨rfl, hb1.trans (hb2.mono hb1.size)⟩
theorem failed_nokey0 (nb : Nat) (a : Addr) (w : World) (hg : ErrT w) (hn : w.cell? ⟨nb, 0, none⟩ = some .nilIface) (hf : w.frozen? ⟨nb, 0, none⟩ = false) (hnb : nb ≠ 0) : Calls Ybaf.prog 31 #[.iface 40 (.pointer (some a)), .pointer (some ⟨nb, 0, none⟩)] w fun e w' => e = .returned (.bool false) ∧ Below w.heap.size (w.setCell ⟨nb, 0, none⟩ (.iface 40 (.pointer (some a)))) w' := by
  have hl : nb < w.heap.size := World.block_lt_of_cell? w _ hn
  go_enter Ybaf.func31, Ybaf.ntmps31
  go_wp2_with (first
    | (go_at_call 20; refine (fails_nokey a _ hg).mono ?_; rintro e W1 ⟨rfl, hb1⟩; have n1 := (hb1.cell (p := ⟨nb, 0, none⟩) hl).trans hn; have f1 := (hb1.frozen (p := ⟨nb, 0, none⟩) hl).trans hf; have hg1 : ErrT (W1.setCell ⟨nb, 0, none⟩ (.iface 40 (.pointer (some a)))) := (set_other (.inl (Ne.symm hnb))).trans (hg.below hb1 hg.lt))
    | (go_at_call 20; refine (fails_nokey a _ hg1).mono ?_; rintro e W2 ⟨rfl, hb2⟩))
  go_ret
  exact ⟨rfl, (below_set hb1 _ _ hl).trans (hb2.mono (by simpa using hb1.size))⟩
theorem failed_nokey1 (nb : Nat) (a a2 : Addr) (w : World) (hg : ErrT w) (hn : w.cell? ⟨nb, 0, none⟩ = some (.iface 40 (.pointer (some a2)))) : Calls Ybaf.prog 31 #[.iface 40 (.pointer (some a)), .pointer (some ⟨nb, 0, none⟩)] w fun e w' => e = .returned (.bool false) ∧ Below w.heap.size w w' := by
  have hl : nb < w.heap.size := World.block_lt_of_cell? w _ hn
  go_enter Ybaf.func31, Ybaf.ntmps31
  go_wp2_with (first
    | (go_at_call 20; refine (fails_nokey a _ hg).mono ?_; rintro e W1 ⟨rfl, hb1⟩; have n1 := (hb1.cell (p := ⟨nb, 0, none⟩) hl).trans hn; have hg1 := hg.below hb1 hg.lt)
    | (go_at_call 20; refine (fails_nokey a _ hg1).mono ?_; rintro e W2 ⟨rfl, hb2⟩))
  go_ret
  exact ⟨rfl, hb1.trans (hb2.mono hb1.size)⟩
end Go.Proofs.YbulkcegsFmt
