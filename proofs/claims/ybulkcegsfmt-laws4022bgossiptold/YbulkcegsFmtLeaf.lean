import Derived.Test.YbulkcegsFmtFacts
import Derived.OwnWalk
import Derived.Laws.OwnMore
import Derived.Laws.BytesArg
import Derived.BigQuiet
import Derived.Deep.QuietTactic
import Derived.Deep.LoopGhost
import Derived.Laws.EntriesVeiled
namespace Go.Proofs.YbulkcegsFmt
open Go.RowKit Go.Extern.Stop Go.Stop Go.Extern
set_option linter.unusedVariables false

/-- The two node names: true is a, false is b. -/
def nm (x : Bool) : ByteArray := if x then ⟨#[97]⟩ else ⟨#[98]⟩
/-- The two protocol names: true is p, false is q. -/
def pn (x : Bool) : ByteArray := if x then ⟨#[112]⟩ else ⟨#[113]⟩
@[go_sem] theorem nm_eq (x y : Bool) : ((nm x).toList == (nm y).toList) = (x == y) := by rw [Go.ByteArray.toList_eq, Go.ByteArray.toList_eq]; cases x <;> cases y <;> rfl
@[go_sem] theorem pn_eq (x y : Bool) : ((pn x).toList == (pn y).toList) = (x == y) := by rw [Go.ByteArray.toList_eq, Go.ByteArray.toList_eq]; cases x <;> cases y <;> rfl
@[go_sem] theorem pn_p (x : Bool) : ((pn x).toList == (⟨#[112]⟩ : ByteArray).toList) = x := by rw [Go.ByteArray.toList_eq, Go.ByteArray.toList_eq]; cases x <;> rfl
@[go_sem] theorem nm_sz (x : Bool) : (nm x).size = 1 := by cases x <;> rfl

theorem results_cell1 {fn : Func} {p : Tmp} {ty : TypeId} (h : fn.results = #[.cell p ty]) (tmps : Array Value) (P : Program) (w : World) :
    (results fn tmps).run P w = ((asAddr (tmps.getD p undef)).run P w).andThen fun a w₁ => (loadVar ty a).run P w₁ := by
  simp only [results, h]
  simp [Sem.run_bind, Result.andThen]

theorem name_calls (x : Int) (w : World) : Calls Ybaf.prog 5 #[.int .u8 x] w fun e w' => e = .returned (.string (nm (decide (x.tmod 2 = 0)))) ∧ w' = w := by
  go_enter Ybaf.func5, Ybaf.ntmps5
  by_cases h : x.tmod 2 = 0
  · go_wp2_with fail
    go_ret
    exact ⟨by rw [decide_eq_true h]; rfl, rfl⟩
  · go_wp2_with fail
    go_ret
    exact ⟨by rw [decide_eq_false h]; rfl, rfl⟩
theorem pname_calls (x : Int) (w : World) : Calls Ybaf.prog 6 #[.int .u8 x] w fun e w' => e = .returned (.string (pn (!decide (x.tmod 3 = 2)))) ∧ w' = w := by
  go_enter Ybaf.func6, Ybaf.ntmps6
  by_cases h : x.tmod 3 = 2
  · go_wp2_with fail
    go_ret
    exact ⟨by rw [decide_eq_true h]; rfl, rfl⟩
  · go_wp2_with fail
    go_ret
    exact ⟨by rw [decide_eq_false h]; rfl, rfl⟩
theorem errNew_calls (s : ByteArray) (w : World) : Calls Ybaf.prog 8 #[.string s] w fun e w' => e = .returned (.iface 66 (.pointer (some ⟨w.heap.size, 0, none⟩))) ∧ w' = w.alloc (.cells #[.string s] 68) := by
  go_enter Ybaf.func8, Ybaf.ntmps8
  go_wp2_with fail
  go_ret
  exact ⟨rfl, rfl⟩
theorem noKeyFor_calls (s : ByteArray) (w : World) : Calls Ybaf.prog 19 #[.string s] w fun e w' => e = .returned (.iface 40 (.pointer (some ⟨w.heap.size + 1, 0, none⟩))) ∧ w' = (w.alloc (.cells #[.string s] 9)).alloc (.cells #[.slice (some ⟨w.heap.size, 0, none⟩) 1 1] 42) := by
  go_enter Ybaf.func19, Ybaf.ntmps19
  go_wp2_with fail
  go_ret
  exact ⟨rfl, rfl⟩
theorem keys_calls (p : Option Addr) (n c : Nat) (w : World) : Calls Ybaf.prog 10 #[.slice p n c] w fun e w' => e = .returned (.agg #[.func (.func 23) #[] #[.pointer (some ⟨w.heap.size, 0, none⟩)], .func (.func 24) #[] #[]]) ∧ Below w.heap.size w w' ∧ w'.cell? ⟨w.heap.size, 0, none⟩ = some (.slice p n c) ∧ w.heap.size < w'.heap.size := by
  go_enter Ybaf.func10, Ybaf.ntmps10
  go_wp2_with fail
  refine bodyPost_ret (v := .agg #[.func (.func 23) #[] #[.pointer (some ⟨w.heap.size, 0, none⟩)], .func (.func 24) #[] #[]]) (by rw [results_cell1 rfl]; go_simp) rfl ?_
  refine ⟨rfl, ?_, by simp, by simp; omega⟩
  repeat (first | exact Below.refl _ _ | apply Below.drew | refine Below.setCell ?_ (by simp) _ | refine Below.alloc ?_ (by first | omega | (simp <;> omega)) _)

/-- The slice of names lies in its cells. -/
def StrsAt (w : World) (g : Nat) (ks : List Bool) : Prop := ∀ i, i < ks.length → w.cell? ⟨g, i, none⟩ = some (.string (nm (ks.getD i false)))
theorem StrsAt.below {w w' : World} {g : Nat} {ks : List Bool} (h : StrsAt w g ks) {n : Nat} (hb : Below n w w') (hg : g < n) : StrsAt w' g ks := fun i hi => (hb.cell (p := ⟨g, i, none⟩) hg).trans (h i hi)

theorem take_snoc (ks : List Bool) (j : Nat) (h : j < ks.length) : ks.take (j + 1) = ks.take j ++ [ks.getD j false] := by
  rw [List.take_add_one, List.getElem?_eq_getElem h]
  simp [List.getD, List.getElem?_eq_getElem h]

theorem has_calls (a0 : Option Addr) (c : Nat) (ks : List Bool) (hl : ks.length ≤ 4096) (x q0 : Bool) (hq0 : q0 = ks.contains x) (w : World) (hks : ks ≠ [] → ∃ g, a0 = some ⟨g, 0, none⟩ ∧ StrsAt w g ks) :
    Calls Ybaf.prog 11 #[.slice a0 ks.length c, .string (nm x)] w fun e w' => e = .returned (.bool q0) ∧ w' = w := by
  go_enter Ybaf.func11, Ybaf.ntmps11
  go_wp2_with fail
  go_loopg [9] ks.length (fun gg s9 wr => ∃ j, j + gg = ks.length ∧ s9 = .int .i64 j ∧ wr = w ∧ (ks.take j).contains x = false)
  case atStart => exact ⟨0, by omega, rfl, rfl, by simp⟩
  case round =>
    obtain ⟨j, hj, rfl, rfl, hcn⟩ := hrel
    by_cases hg : j < ks.length
    · obtain ⟨g, rfl, hc⟩ := hks (by rintro rfl; simp at hg)
      have h1 := hc j hg
      have hji : (j : Int) < ks.length := by omega
      have hsn := take_snoc ks j hg
      have hmem : ks.getD j false ∈ ks := by simp [List.getD, List.getElem?_eq_getElem hg]
      generalize ks.getD j false = q at *
      by_cases he : q = x
      · subst he
        have hres : ks.contains q = true := List.contains_iff_mem.2 hmem
        go_wp2_with fail
        go_ret
        exact ⟨congrArg (fun b => Ending.returned (.bool b)) (hq0.trans hres).symm, rfl⟩
      · have hne : (q == x) = false := beq_eq_false_iff_ne.2 he
        go_wp2_with fail
        go_roundg (gk - 1)
        case measure => omega
        case rel => exact ⟨j + 1, by omega, by go_num, rfl, by rw [hsn]; simp only [List.contains_append, hcn, Bool.false_or]; simp; exact fun h => he h.symm⟩
    · have hji : ¬ (j : Int) < ks.length := by omega
      have hres : ks.contains x = false := by rw [List.take_of_length_le (by omega)] at hcn; exact hcn
      obtain rfl : q0 = false := hq0.trans hres
      clear hq0 hres
      go_wp2_with fail
      go_ret
      exact ⟨rfl, rfl⟩

theorem Ybaf.info5 : (Ybaf.prog.info? 5).map (fun i => (i.zero, i.size, i.bytes)) = some (some (.int .u8 0), 1, 1) := by kernel_rfl
def keyRow : Array Value := madeCells (Value.int .u8 0).cells 32
theorem make_key (W : World) : (Instr.makeSlice 79 (.int .i64 32) (.int .i64 32)).run Ybaf.prog W = .ok (.slice (some ⟨W.heap.size, 0, none⟩) 32 32) (W.alloc (.cells keyRow 5)) := by
  obtain ⟨i, hi, hz, hs, hb⟩ := info_parts Ybaf.info5
  have h := run_make (P := Ybaf.prog) W 79 5 i _ Ybaf.underlying79 hi hz .i64 .i64 32 32 (by omega) (by omega) (by rw [hb]; omega) (by omega)
  rw [hs] at h
  exact h

theorem verifies_calls (g g2 n c c2 : Nat) (v : Int) (w : World) (hn : 0 < n) (hn2 : n ≤ 1000000000000000) (hc : w.cell? ⟨g2, n - 1, none⟩ = some (.int .u8 v)) :
    Calls Ybaf.prog 24 #[.slice (some ⟨g, 0, none⟩) 32 c, .slice (some ⟨g2, 0, none⟩) n c2] w fun e w' => e = .returned (.bool (v == 0)) ∧ w' = w := by
  go_enter Ybaf.func24, Ybaf.ntmps24
  go_wp2_with fail
  go_ret
  exact ⟨rfl, rfl⟩

theorem keyOf_calls (b : Nat) (a0 : Option Addr) (c : Nat) (ks : List Bool) (hl : ks.length ≤ 4096) (x : Bool) (w : World) (hb : w.cell? ⟨b, 0, none⟩ = some (.slice a0 ks.length c)) (hc : ks ≠ [] → ∃ g, a0 = some ⟨g, 0, none⟩ ∧ StrsAt w g ks) :
    Calls Ybaf.prog 23 #[.string (nm x), .pointer (some ⟨b, 0, none⟩)] w fun e w' => e = .returned (if ks.contains x then .slice (some ⟨w.heap.size, 0, none⟩) 32 32 else .slice none 0 0) ∧ Below w.heap.size w w' := by
  obtain ⟨q, hq⟩ : ∃ q, q = ks.contains x := ⟨_, rfl⟩
  have hh := has_calls a0 c ks hl x q hq w hc
  rw [← hq]
  clear hc hq
  have hmk := make_key
  go_enter Ybaf.func23, Ybaf.ntmps23
  cases q
  · go_wp2_with (go_at_call 11; refine hh.mono ?_; rintro e w' ⟨rfl, rfl⟩)
    go_ret
    exact ⟨rfl, Below.refl _ _⟩
  · go_wp2_with (go_at_call 11; refine hh.mono ?_; rintro e w' ⟨rfl, rfl⟩)
    go_ret
    exact ⟨rfl, (Below.refl _ _).alloc (Nat.le_refl _) _⟩

def msgC (x p : Bool) (st : Int) (b n : Nat) : Array Value := #[.string (nm x), .string (pn p), .int .u64 st, .slice none 0 0, .slice none 0 0, .slice (some ⟨b, 0, none⟩) n n, .int .i64 0]
def msgV (x p : Bool) (st : Int) (b n : Nat) : Value := .agg #[.string (nm x), .string (pn p), .int .u64 st, .slice none 0 0, .slice none 0 0, .slice (some ⟨b, 0, none⟩) n n, .int .i64 0]

theorem sealed_calls (x p : Bool) (st : Int) (b n : Nat) (hn : n ≤ 1000000000000000) (w : World) : Calls Ybaf.prog 38 #[msgV x p st b n] w fun e w' => e = .returned (.slice (some ⟨b, 0, none⟩) n n) ∧ w' = w.alloc (.cells (msgC x p st b n) 34) := by
  unfold msgV msgC
  go_enter Ybaf.func38, Ybaf.ntmps38
  go_wp2_with fail
  go_ret
  exact ⟨rfl, rfl⟩
theorem signer_calls (x p : Bool) (st : Int) (b n : Nat) (w : World) : Calls Ybaf.prog 59 #[msgV x p st b n] w fun e w' => e = .returned (.string (nm x)) ∧ w' = w.alloc (.cells (msgC x p st b n) 34) := by
  unfold msgV msgC
  go_enter Ybaf.func59, Ybaf.ntmps59
  go_wp2_with fail
  go_ret
  exact ⟨rfl, rfl⟩
theorem body_calls (x p : Bool) (st : Int) (b n : Nat) (hn : n + 64 ≤ 1000000000000000) (w : World) : Calls Ybaf.prog 30 #[msgV x p st b (n + 64)] w fun e w' => e = .returned (.slice (some ⟨b, 0, none⟩) n (n + 64)) ∧ w' = (w.alloc (.cells (msgC x p st b (n + 64)) 34)).alloc (.cells (msgC x p st b (n + 64)) 34) := by
  unfold msgV msgC
  go_enter Ybaf.func30, Ybaf.ntmps30
  go_wp2_with (go_at_call 38; refine (sealed_calls x p st b (n + 64) hn _).mono ?_; rintro e w' ⟨rfl, rfl⟩)
  go_ret
  exact ⟨by simp, rfl⟩
end Go.Proofs.YbulkcegsFmt
