import Derived.Test.YbulkcegsFmtLeaf
import Derived.Deep.RegionHeld3
import Derived.BigRegion
import Derived.Deep.DrawnRows
namespace Go.Proofs.YbulkcegsFmt
open Go.RowKit Go.Extern.Stop Go.Stop Go.Extern
set_option linter.unusedVariables false
attribute [local go_sem ↓] Go.wp_at_zero Go.wp_at_succ

theorem Ybaf.mSigner (v : Value) (w : World) : (Go.method 263 34 v "example.com/accuser/accuser.signer").run Ybaf.prog w = .ok (59, v) w := by kernel_rfl
theorem Ybaf.mSealed (v : Value) (w : World) : (Go.method 263 34 v "example.com/accuser/accuser.sealed").run Ybaf.prog w = .ok (38, v) w := by kernel_rfl
theorem Ybaf.mName (v : Value) (w : World) : (Go.method 263 43 v "Name").run Ybaf.prog w = .ok (62, v) w := by kernel_rfl
theorem Ybaf.mCheck (v : Value) (w : World) : (Go.method 263 43 v "Check").run Ybaf.prog w = .ok (61, v) w := by kernel_rfl

theorem Ybaf.ta34_64 (v : Value) (w : World) : (Instr.typeAssert (.iface 34 v) 36 64 true).run Ybaf.prog w = .ok (.tuple #[.agg #[.string ⟨#[]⟩, .int .u64 0, .slice none 0 0, .slice none 0 0, .slice none 0 0, .slice none 0 0], .bool false]) w := by kernel_rfl
theorem Ybaf.ta64_64 (v : Value) (w : World) : (Instr.typeAssert (.iface 64 v) 36 64 true).run Ybaf.prog w = .ok (.tuple #[v, .bool true]) w := by kernel_rfl
theorem Ybaf.ta64_64x (v : Value) (w : World) : (Instr.typeAssert (.iface 64 v) 36 64 false).run Ybaf.prog w = .ok v w := by kernel_rfl
theorem Ybaf.ta34_34 (v : Value) (w : World) : (Instr.typeAssert (.iface 34 v) 36 34 true).run Ybaf.prog w = .ok (.tuple #[v, .bool true]) w := by kernel_rfl
theorem Ybaf.ta34_34x (v : Value) (w : World) : (Instr.typeAssert (.iface 34 v) 36 34 false).run Ybaf.prog w = .ok v w := by kernel_rfl
theorem Ybaf.ta64_34 (v : Value) (w : World) : (Instr.typeAssert (.iface 64 v) 36 34 true).run Ybaf.prog w = .ok (.tuple #[.agg #[.string ⟨#[]⟩, .string ⟨#[]⟩, .int .u64 0, .slice none 0 0, .slice none 0 0, .slice none 0 0, .int .i64 0], .bool false]) w := by kernel_rfl
attribute [go_sem] Ybaf.ta34_64 Ybaf.ta64_64 Ybaf.ta64_64x Ybaf.ta34_34 Ybaf.ta34_34x Ybaf.ta64_34

/-- Cell i of the proof's block holds a step message. -/
def MsgAt (w : World) (pb i : Nat) (x p : Bool) (st : Int) (b n : Nat) : Prop := w.cell? ⟨pb, i, none⟩ = some (.iface 34 (msgV x p st b n))
theorem MsgAt.below {w w' : World} {pb i : Nat} {x p : Bool} {st : Int} {b n : Nat} (h : MsgAt w pb i x p st b n) {k : Nat} (hb : Below k w w') (hg : pb < k) : MsgAt w' pb i x p st b n := (hb.cell (p := ⟨pb, i, none⟩) hg).trans h

theorem Name_calls (a : Option Addr) (w : World) : Calls Ybaf.prog 62 #[.pointer a] w fun e w' => e = .returned (.string (pn true)) ∧ w' = w := by
  go_enter Ybaf.func62, Ybaf.ntmps62
  go_wp2_with fail
  go_ret
  exact ⟨rfl, rfl⟩

theorem node_calls (pb n c : Nat) (x p : Bool) (st : Int) (b k : Nat) (w : World) (hn : 0 < n) (h0 : MsgAt w pb 0 x p st b k) : Calls Ybaf.prog 18 #[.slice (some ⟨pb, 0, none⟩) n c] w fun e w' => e = .returned (.string (nm x)) ∧ Below w.heap.size w w' := by
  have hm := Ybaf.mSigner
  have h1 : w.cell? ⟨pb, 0, none⟩ = some (.iface 34 (msgV x p st b k)) := h0
  have hn0 : ((n : Int) == 0) = false := beq_eq_false_iff_ne.2 (by omega)
  go_enter Ybaf.func18, Ybaf.ntmps18
  go_wp2_with (go_at_call 59; refine (signer_calls x p st b k _).mono ?_; rintro e w' ⟨rfl, rfl⟩)
  go_ret
  exact ⟨rfl, (Below.refl _ _).alloc (Nat.le_refl _) _⟩

theorem kind0 (a : Option Addr) (n c : Nat) (w : World) (hn : n = 0 ∨ 3 ≤ n) : Calls Ybaf.prog 14 #[.slice a n c] w fun e w' => e = .returned (.int .i64 0) ∧ w' = w := by
  have hn1 : ((n : Int) == 1) = false := beq_eq_false_iff_ne.2 (by omega)
  have hn2 : ((n : Int) == 2) = false := beq_eq_false_iff_ne.2 (by omega)
  go_enter Ybaf.func14, Ybaf.ntmps14
  go_wp2_with fail
  go_ret
  exact ⟨rfl, rfl⟩
set_option maxRecDepth 100000 in
set_option maxHeartbeats 4000000 in
theorem kind1 (pb c : Nat) (x p : Bool) (st : Int) (b k : Nat) (w : World) (h0 : MsgAt w pb 0 x p st b k) : Calls Ybaf.prog 14 #[.slice (some ⟨pb, 0, none⟩) 1 c] w fun e w' => e = .returned (.int .i64 1) ∧ Below w.heap.size w w' := by
  have h1 : w.cell? ⟨pb, 0, none⟩ = some (.iface 34 (msgV x p st b k)) := h0
  go_enter Ybaf.func14, Ybaf.ntmps14
  go_wp2_with fail
  go_ret
  refine ⟨rfl, ?_⟩
  repeat (first | exact Below.refl _ _ | apply Below.drew | refine Below.setCell ?_ (by simp) _ | refine Below.alloc ?_ (by first | omega | (simp <;> omega)) _)
set_option maxRecDepth 100000 in
set_option maxHeartbeats 4000000 in
theorem kind2 (pb c : Nat) (x p : Bool) (st : Int) (b k : Nat) (x' p' : Bool) (st' : Int) (b' k' : Nat) (w : World) (h0 : MsgAt w pb 0 x p st b k) (h1 : MsgAt w pb 1 x' p' st' b' k') : Calls Ybaf.prog 14 #[.slice (some ⟨pb, 0, none⟩) 2 c] w fun e w' => e = .returned (.int .i64 2) ∧ Below w.heap.size w w' := by
  have g0 : w.cell? ⟨pb, 0, none⟩ = some (.iface 34 (msgV x p st b k)) := h0
  have g1 : w.cell? ⟨pb, 1, none⟩ = some (.iface 34 (msgV x' p' st' b' k')) := h1
  have hl := World.block_lt_of_cell? w _ g0
  simp only at hl
  have t1 : pb < w.heap.size + 1 := by omega
  unfold msgV at g0 g1
  go_enter Ybaf.func14, Ybaf.ntmps14
  go_wp2_with fail
  go_ret
  refine ⟨rfl, ?_⟩
  repeat (first | exact Below.refl _ _ | apply Below.drew | refine Below.setCell ?_ (by simp) _ | refine Below.alloc ?_ (by first | omega | (simp <;> omega)) _)

theorem steps_calls (p : Option Addr) (n c : Nat) (w : World) : Calls Ybaf.prog 17 #[.slice p n c, .int .i64 16] w fun e w' => e = .returned (.func (.func 28) #[] #[.pointer (some ⟨w.heap.size, 0, none⟩), .pointer (some ⟨w.heap.size + 1, 0, none⟩)]) ∧ w' = (w.alloc (.cells #[.slice p n c] 24)).alloc (.cells #[.int .i64 16] 3) := by
  go_enter Ybaf.func17, Ybaf.ntmps17
  go_wp2_with fail
  go_ret
  exact ⟨rfl, rfl⟩

set_option maxRecDepth 100000 in
set_option maxHeartbeats 4000000 in
theorem nests1 (pb c : Nat) (x p : Bool) (st : Int) (b k : Nat) (w : World) (h0 : MsgAt w pb 0 x p st b k) : Calls Ybaf.prog 16 #[.slice (some ⟨pb, 0, none⟩) 1 c, .int .i64 17] w fun e w' => e = .returned (.bool false) ∧ Below w.heap.size w w' := by
  have g0 : w.cell? ⟨pb, 0, none⟩ = some (.iface 34 (msgV x p st b k)) := h0
  unfold msgV at g0
  have hl := World.block_lt_of_cell? w _ g0
  simp only at hl
  have t1 : pb < w.heap.size + 1 := by omega
  go_enter Ybaf.func16, Ybaf.ntmps16
  go_wp2_with fail
  refine wp_loop_rounds 2 ?_
  iterate 2
    rw [rounds_succ]
    go_wp2_with fail
  go_ret
  refine ⟨rfl, ?_⟩
  repeat (first | exact Below.refl _ _ | apply Below.drew | refine Below.setCell ?_ (by simp) _ | refine Below.alloc ?_ (by first | omega | (simp <;> omega)) _)
set_option maxRecDepth 100000 in
set_option maxHeartbeats 4000000 in
theorem nests2 (pb c : Nat) (x p : Bool) (st : Int) (b k : Nat) (x' p' : Bool) (st' : Int) (b' k' : Nat) (w : World) (h0 : MsgAt w pb 0 x p st b k) (h1 : MsgAt w pb 1 x' p' st' b' k') : Calls Ybaf.prog 16 #[.slice (some ⟨pb, 0, none⟩) 2 c, .int .i64 17] w fun e w' => e = .returned (.bool false) ∧ Below w.heap.size w w' := by
  have g0 : w.cell? ⟨pb, 0, none⟩ = some (.iface 34 (msgV x p st b k)) := h0
  have g1 : w.cell? ⟨pb, 1, none⟩ = some (.iface 34 (msgV x' p' st' b' k')) := h1
  unfold msgV at g0 g1
  have hl := World.block_lt_of_cell? w _ g0
  simp only at hl
  have t1 : pb < w.heap.size + 1 := by omega
  have t2 : pb < w.heap.size + 1 + 1 := by omega
  go_enter Ybaf.func16, Ybaf.ntmps16
  go_wp2_with fail
  refine wp_loop_rounds 3 ?_
  iterate 3
    rw [rounds_succ]
    go_wp2_with fail
  go_ret
  refine ⟨rfl, ?_⟩
  repeat (first | exact Below.refl _ _ | apply Below.drew | refine Below.setCell ?_ (by simp) _ | refine Below.alloc ?_ (by first | omega | (simp <;> omega)) _)

theorem Check_calls (b g : Nat) (r m ks : Value) (x p : Bool) (st : Int) (db dn : Nat) (k0 k1 : Value) (w : World) (c0 : w.cell? ⟨b, 0, none⟩ = some r) (hf : w.frozen? ⟨b, 1, none⟩ = false) (c1 : w.cell? ⟨b, 1, none⟩ = some (.int .i64 0)) (hr : r = .nilIface ∨ ∃ t v, r = .iface t v) :
    Calls Ybaf.prog 61 #[.pointer (some ⟨b, 0, none⟩), msgV x p st db dn, .agg #[k0, k1]] w fun e w' => e = .returned r ∧ Below w.heap.size (w.setCell ⟨b, 1, none⟩ (.int .i64 1)) w' := by
  have hl := World.block_lt_of_cell? w _ c0
  simp only at hl
  have t1 : b < w.heap.size + 1 := by omega
  have t2 : b < w.heap.size + 1 + 1 := by omega
  unfold msgV
  go_enter Ybaf.func61, Ybaf.ntmps61
  rcases hr with rfl | ⟨t, v, rfl⟩
  · go_wp2_with fail
    go_ret
    refine ⟨rfl, ?_⟩
    repeat (first | exact Below.refl _ _ | apply Below.drew | refine Below.setCell ?_ (by simp) _ | refine Below.alloc ?_ (by first | omega | (simp <;> omega)) _)
  · go_wp2_with fail
    go_ret
    refine ⟨rfl, ?_⟩
    repeat (first | exact Below.refl _ _ | apply Below.drew | refine Below.setCell ?_ (by simp) _ | refine Below.alloc ?_ (by first | omega | (simp <;> omega)) _)

/-- The slice of bytes v holds xs. -/
def BytesAt (w : World) (v : Value) (xs : List Int) : Prop := ∃ a cap, v = .slice a xs.length cap ∧ (a = none → cap = 0) ∧ ∀ i, i < xs.length → ∃ b off, a = some ⟨b, off, none⟩ ∧ b < w.heap.size ∧ w.cell? ⟨b, off + i, none⟩ = some (.int .u8 (xs.getD i 0))
theorem BytesAt.below {w w' : World} {v : Value} {xs : List Int} (h : BytesAt w v xs) (hb : Below w.heap.size w w') : BytesAt w' v xs := by
  obtain ⟨a, cap, h1, h2, h3⟩ := h
  refine ⟨a, cap, h1, h2, fun i hi => ?_⟩
  obtain ⟨b, off, ha, hl, hc⟩ := h3 i hi
  exact ⟨b, off, ha, Nat.lt_of_lt_of_le hl hb.size, (hb.cell (p := ⟨b, off + i, none⟩) hl).trans hc⟩
theorem BytesAt.conv {w : World} {v : Value} {xs : List Int} (h : BytesAt w v xs) : (convert 27 9 v).run Ybaf.prog w = .ok (.string (strOfNums xs)) w := by
  obtain ⟨a, cap, rfl, h2, h3⟩ := h
  rcases xs with _ | ⟨x, xs⟩
  · cases a with
    | none => exact run_convert_bytes_nil w 27 5 Ybaf.underlying27 Ybaf.underlying5 0 cap 9 Ybaf.underlying9
    | some ad => exact run_convert_bytes_back w 27 9 5 ad cap [] Ybaf.underlying27 Ybaf.underlying5 Ybaf.underlying9 (by simp)
  · obtain ⟨b, off, rfl, hl, hc⟩ := h3 0 (by simp)
    refine run_convert_bytes_arg w 27 5 Ybaf.underlying27 Ybaf.underlying5 b off _ cap (x :: xs) rfl (fun i hi => ?_) 9 Ybaf.underlying9
    obtain ⟨b', off', e, hl', hc'⟩ := h3 i hi
    cases e
    exact hc'

theorem equal_calls (v1 v2 : Value) (xs ys : List Int) (w : World) (h1 : BytesAt w v1 xs) (h2 : BytesAt w v2 ys) : Calls Ybaf.prog 12 #[v1, v2] w fun e w' => e = .returned (.bool ((strOfNums xs).toList == (strOfNums ys).toList)) ∧ w' = w := by
  have k1 := h1.conv
  have k2 := h2.conv
  go_enter Ybaf.func12, Ybaf.ntmps12
  go_wp2_with fail
  go_ret
  exact ⟨rfl, rfl⟩

set_option maxHeartbeats 4000000 in
theorem conflicts_calls (x p : Bool) (st : Int) (b n : Nat) (x' p' : Bool) (st' : Int) (b' n' : Nat) (xs ys : List Int) (hn : n + 64 ≤ 1000000000000000) (hn' : n' + 64 ≤ 1000000000000000) (w : World)
    (h1 : BytesAt w (.slice (some ⟨b, 0, none⟩) n (n + 64)) xs) (h2 : BytesAt w (.slice (some ⟨b', 0, none⟩) n' (n' + 64)) ys) :
    Calls Ybaf.prog 21 #[msgV x p st b (n + 64), msgV x' p' st' b' (n' + 64)] w fun e w' => e = .returned (.bool (!((strOfNums xs).toList == (strOfNums ys).toList))) ∧ Below w.heap.size w w' := by
  have H1 : Hid (BytesAt w (.slice (some ⟨b, 0, none⟩) n (n + 64)) xs) := h1
  have H2 : Hid (BytesAt w (.slice (some ⟨b', 0, none⟩) n' (n' + 64)) ys) := h2
  clear h1 h2
  unfold msgV
  go_enter Ybaf.func21, Ybaf.ntmps21
  go_wp2_with fail
  have t1 : w.heap.size < w.heap.size + 1 + 1 := by omega
  have t2 : w.heap.size < w.heap.size + 1 + 1 + 1 := by omega
  have t3 : w.heap.size < w.heap.size + 1 + 1 + 1 + 1 := by omega
  have t4 : w.heap.size + 1 < w.heap.size + 1 + 1 + 1 := by omega
  have t5 : w.heap.size + 1 < w.heap.size + 1 + 1 + 1 + 1 := by omega
  go_region_held3 (fun w' => w'.cell? ⟨w.heap.size, 0, none⟩ = some (.string (nm x)) ∧ w'.cell? ⟨w.heap.size, 1, none⟩ = some (.string (pn p)) ∧ w'.cell? ⟨w.heap.size, 2, none⟩ = some (.int .u64 st) ∧ w'.cell? ⟨w.heap.size, 3, none⟩ = some (.slice none 0 0) ∧ w'.cell? ⟨w.heap.size, 4, none⟩ = some (.slice none 0 0) ∧ w'.cell? ⟨w.heap.size, 5, none⟩ = some (.slice (some ⟨b, 0, none⟩) (n + 64) (n + 64)) ∧ w'.cell? ⟨w.heap.size, 6, none⟩ = some (.int .i64 0)
    ∧ w'.cell? ⟨w.heap.size + 1, 0, none⟩ = some (.string (nm x')) ∧ w'.cell? ⟨w.heap.size + 1, 1, none⟩ = some (.string (pn p')) ∧ w'.cell? ⟨w.heap.size + 1, 2, none⟩ = some (.int .u64 st') ∧ w'.cell? ⟨w.heap.size + 1, 3, none⟩ = some (.slice none 0 0) ∧ w'.cell? ⟨w.heap.size + 1, 4, none⟩ = some (.slice none 0 0) ∧ w'.cell? ⟨w.heap.size + 1, 5, none⟩ = some (.slice (some ⟨b', 0, none⟩) (n' + 64) (n' + 64)) ∧ w'.cell? ⟨w.heap.size + 1, 6, none⟩ = some (.int .i64 0)) (go_simp)
    (first | (go_at_call 30; refine (body_calls _ _ _ _ _ (by first | exact hn | exact hn') _).mono ?_; rintro e w' ⟨rfl, rfl⟩) | (go_at_call 12; refine (equal_calls _ _ xs ys _ (H1.out.below (by repeat (first | exact Below.refl _ _ | apply Below.drew | refine Below.alloc ?_ (by first | omega | (simp <;> omega)) _))) (H2.out.below (by repeat (first | exact Below.refl _ _ | apply Below.drew | refine Below.alloc ?_ (by first | omega | (simp <;> omega)) _)))).mono ?_; rintro e w' ⟨rfl, rfl⟩))
  all_goals
    go_wp2
    go_ret
    refine ⟨rfl, ?_⟩
    repeat (first | exact Below.refl _ _ | apply Below.drew | refine Below.alloc ?_ (by first | omega | (simp <;> omega)) _)
end Go.Proofs.YbulkcegsFmt
