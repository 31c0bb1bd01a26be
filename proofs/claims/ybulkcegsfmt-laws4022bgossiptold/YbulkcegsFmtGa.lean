import Derived.Test.YbulkcegsFmtStE
import Derived.Deep.RegionHeld3
import Derived.Deep.DrawnRows
import Derived.Deep.LoopGhost
namespace Go.Proofs.YbulkcegsFmt
open Go.RowKit Go.Shelf Go.Extern.Stop Go.Stop Go.Extern
set_option linter.unusedVariables false
attribute [local go_sem] Oper.semAt_some
attribute [local go_sem ↓] Go.wp_at_zero Go.wp_at_succ

theorem Ybaf.mSignerG (v : Value) (w : World) : (Go.method 263 64 v "example.com/accuser/accuser.signer").run Ybaf.prog w = .ok (65, v) w := by kernel_rfl
theorem Ybaf.mSealedG (v : Value) (w : World) : (Go.method 263 64 v "example.com/accuser/accuser.sealed").run Ybaf.prog w = .ok (64, v) w := by kernel_rfl

/-- The gossip, and the sealed gossip, as values. -/
def gosI (x : Bool) (mb n : Nat) : Value := .agg #[.string (nm x), .int .u64 0, .slice none 0 0, .slice (some ⟨mb, 0, none⟩) n n, .slice none 0 0]
def gosV (x : Bool) (mb n db : Nat) : Value := .agg #[.string (nm x), .int .u64 0, .slice none 0 0, .slice (some ⟨mb, 0, none⟩) n n, .slice none 0 0, .slice (some ⟨db, 0, none⟩) 64 64]
def gosC (x : Bool) (mb n db : Nat) : Array Value := #[.string (nm x), .int .u64 0, .slice none 0 0, .slice (some ⟨mb, 0, none⟩) n n, .slice none 0 0, .slice (some ⟨db, 0, none⟩) 64 64]
def GosAt (w : World) (pb : Nat) (x : Bool) (mb n db : Nat) : Prop := w.cell? ⟨pb, 0, none⟩ = some (.iface 64 (gosV x mb n db))
theorem GosAt.below {w w' : World} {pb : Nat} {x : Bool} {mb n db : Nat} (h : GosAt w pb x mb n db) {k : Nat} (hb : Below k w w') (hg : pb < k) : GosAt w' pb x mb n db := (hb.cell (p := ⟨pb, 0, none⟩) hg).trans h

theorem signerG_calls (x : Bool) (mb n db : Nat) (w : World) : Calls Ybaf.prog 65 #[gosV x mb n db] w fun e w' => e = .returned (.string (nm x)) ∧ w' = w.alloc (.cells (gosC x mb n db) 64) := by
  unfold gosV gosC
  go_enter Ybaf.func65, Ybaf.ntmps65
  go_wp2_with fail
  go_ret
  exact ⟨rfl, rfl⟩
theorem sealedG_calls (x : Bool) (mb n db : Nat) (w : World) : Calls Ybaf.prog 64 #[gosV x mb n db] w fun e w' => e = .returned (.slice (some ⟨db, 0, none⟩) 64 64) ∧ w' = w.alloc (.cells (gosC x mb n db) 64) := by
  unfold gosV gosC
  go_enter Ybaf.func64, Ybaf.ntmps64
  go_wp2_with fail
  go_ret
  exact ⟨rfl, rfl⟩
theorem node_G (pb c : Nat) (x : Bool) (mb n db : Nat) (w : World) (h0 : GosAt w pb x mb n db) : Calls Ybaf.prog 18 #[.slice (some ⟨pb, 0, none⟩) 1 c] w fun e w' => e = .returned (.string (nm x)) ∧ Below w.heap.size w w' := by
  have hm := Ybaf.mSignerG
  have h1 : w.cell? ⟨pb, 0, none⟩ = some (.iface 64 (gosV x mb n db)) := h0
  go_enter Ybaf.func18, Ybaf.ntmps18
  go_wp2_with (go_at_call 65; refine (signerG_calls x mb n db _).mono ?_; rintro e w' ⟨rfl, rfl⟩)
  go_ret
  exact ⟨rfl, (Below.refl _ _).alloc (Nat.le_refl _) _⟩
set_option maxRecDepth 100000 in
set_option maxHeartbeats 4000000 in
theorem kind3 (pb c : Nat) (x : Bool) (mb n db : Nat) (w : World) (h0 : GosAt w pb x mb n db) : Calls Ybaf.prog 14 #[.slice (some ⟨pb, 0, none⟩) 1 c] w fun e w' => e = .returned (.int .i64 3) ∧ Below w.heap.size w w' := by
  have h1 : w.cell? ⟨pb, 0, none⟩ = some (.iface 64 (gosV x mb n db)) := h0
  unfold gosV at h1
  go_enter Ybaf.func14, Ybaf.ntmps14
  go_wp2_with fail
  go_ret
  refine ⟨rfl, ?_⟩
  repeat (first | exact Below.refl _ _ | apply Below.drew | refine Below.setCell ?_ (by simp) _ | refine Below.alloc ?_ (by first | omega | (simp <;> omega)) _)
theorem gnests (x : Bool) (mb n : Nat) (w : World) : Calls Ybaf.prog 27 #[gosI x mb n, .int .i64 17] w fun e w' => e = .returned (.bool false) ∧ Below w.heap.size w w' := by
  unfold gosI
  go_enter Ybaf.func27, Ybaf.ntmps27
  go_wp2_with fail
  refine wp_loop_rounds 1 ?_
  rw [rounds_succ]
  go_wp2_with fail
  go_ret
  refine ⟨rfl, ?_⟩
  repeat (first | exact Below.refl _ _ | apply Below.drew | refine Below.setCell ?_ (by simp) _ | refine Below.alloc ?_ (by first | omega | (simp <;> omega)) _)
set_option maxRecDepth 100000 in
set_option maxHeartbeats 4000000 in
theorem nestsG (pb c : Nat) (x : Bool) (mb n db : Nat) (w : World) (h0 : GosAt w pb x mb n db) : Calls Ybaf.prog 16 #[.slice (some ⟨pb, 0, none⟩) 1 c, .int .i64 17] w fun e w' => e = .returned (.bool false) ∧ Below w.heap.size w w' := by
  have g0 : w.cell? ⟨pb, 0, none⟩ = some (.iface 64 (gosV x mb n db)) := h0
  unfold gosV at g0
  have hl := World.block_lt_of_cell? w _ g0
  simp only at hl
  have t1 : pb < w.heap.size + 1 := by omega
  go_enter Ybaf.func16, Ybaf.ntmps16
  go_wp2_with fail
  refine wp_loop_rounds 2 ?_
  rw [rounds_succ]
  go_wp2_with (go_at_call 27; refine (gnests x mb n _).mono ?_; rintro e W1 ⟨rfl, hb1⟩)
  have g1 : W1.cell? ⟨pb, 0, none⟩ = some (.iface 64 (gosV x mb n db)) := (hb1.cell (p := ⟨pb, 0, none⟩) (by simp; omega)).trans (by unfold gosV; go_simp)
  rw [rounds_succ]
  go_wp2_with fail
  go_ret
  exact ⟨rfl, ((Below.refl _ _).alloc (Nat.le_refl _) _).trans (hb1.mono (by simp))⟩
end Go.Proofs.YbulkcegsFmt
