import Derived.Test.YbulkcegsFmtCards
import Derived.Test.YbulkcegsFmtTie
import Derived.Test.YbulkcegsFmtStA
import Derived.Test.YbulkcegsFmtSt1
import Derived.Test.YbulkcegsFmtSt2a
import Derived.Test.YbulkcegsFmtSt2b
import Derived.Test.YbulkcegsFmtSt2c

import Derived.Test.YbulkcegsFmtOpen
import Derived.WalkKit
import Derived.ProofKit
import Derived.OpenShut
import Derived.ShutString
import Derived.ChangeOld
import Derived.Below
import Derived.LaidLaws
import Derived.LaidHandle
import Derived.Stop.JoinedAt
import Derived.Stop.JoinedTold
import Derived.SevenToldRow
import Derived.SevenTiedAt
namespace Go.Proofs.YbulkcegsFmt.lawS4022BSteps
open Go.ChangeShapes Go.WideShapes Go.ChangeAt Go.RowKit Go.Kit
open Go.ChangeMaps (open_string shut_string)
open Go.Extern.Stop Go.Stop Go.Extern
set_option linter.unusedVariables false

theorem own : ownKnob Ybaf.prog.godebug = none := by kernel_rfl
theorem laidOut : laidOutB Ybaf.pinned.checked.prog = true := by kernel_rfl
theorem laidOut' : laidOutB Ybaf.prog = true := by kernel_rfl
theorem stops : Ybaf.pinned.checked.prog.stops = ["fmt.errorf"] := by kernel_rfl
theorem stopKnobs : Ybaf.pinned.checked.prog.stopKnobs = [] := by kernel_rfl
theorem quiet (os : Os) : Stop.quiet Ybaf.pinned.checked.prog os := by
  intro k hk
  rw [stopKnobs] at hk
  cases hk
theorem et : Ybaf.prog.globalNamed "errors.errorType" = some 0 := by kernel_rfl
theorem rt : (Ybaf.prog.cutTypes.find? (·.1 == "internal/reflectlite.rtype")).map (·.2) = some 113 := by kernel_rfl
theorem size : Ybaf.prog.types.size = 163 := by kernel_rfl
theorem oneRow : ((List.range 163).filter fun t => Ybaf.prog.rowNamed t [101, 114, 114, 111, 114]) = [38] := by kernel_rfl

/-- What the listed variable's condition gives the walk: its one cell. -/
theorem handle_of_laid {W : World} (h : laidMetH Ybaf.prog [("errors.errorType", Rows.laid_errors_errorType)] W) : ErrT W := by
  have h' : laidMet Ybaf.prog [] W ∧ handlesMet Ybaf.prog [("errors.errorType", Rows.laid_errors_errorType)] W := h
  obtain ⟨name, u, ty, e1, e2, e3, e4, e5⟩ := h'.2 _ (List.mem_singleton.2 rfl)
  have en : name = [101, 114, 114, 111, 114] := (Option.some.inj e1).symm
  subst en
  obtain rfl := Option.some.inj (rt.symm.trans e2)
  have hm : ty ∈ (List.range 163).filter fun t => Ybaf.prog.rowNamed t [101, 114, 114, 111, 114] := List.mem_filter.2 ⟨List.mem_range.2 (by rw [← size]; exact e3), e4⟩
  rw [oneRow] at hm
  obtain rfl := List.mem_singleton.1 hm
  have hh : typeHandle Ybaf.prog 38 = .pointer (some ⟨1, 38, none⟩) := by kernel_rfl
  rw [hh] at e5
  have := World.var?_cell et e5 0
  simpa [ErrT] using this

set_option maxRecDepth 100000 in
theorem law_long (a0 : Option Addr) (len cap : Nat) (sel : Int) (w : World) (hl : 1024 < len) :
    Calls Ybaf.prog 3 #[.slice a0 len cap, .int .u8 sel] w fun e w' => e = .returned (.bool true) ∧ Below w.heap.size w w' := by
  have hgt : (1024 : Int) < (len : Int) := by omega
  go_enter Ybaf.func3, Ybaf.ntmps3
  go_wp2
  go_ret
  exact ⟨rfl, Below.refl _ _⟩

/-- THE WALK, its ways joined. -/
theorem walk (F : Interp) (a0 : Option Addr) (len cap : Nat) (sel : Int) (md : Nat → ZM) (w : World) (hF : F.answers w.tape) (HC : InAt w a0 len md) (hg : ErrT w) (hs : 0 ≤ sel) :
    Calls Ybaf.prog 3 #[.slice a0 len cap, .int .u8 sel] w fun e w' => e = .returned (.bool true) ∧ Below w.heap.size w w' := by
  have hsel : sel.tmod 3 = 0 ∨ sel.tmod 3 = 1 ∨ sel.tmod 3 = 2 := by
    have h1 := Int.tmod_nonneg (a := sel) 3 hs
    have h2 := Int.tmod_lt_of_pos sel (b := 3) (by omega)
    omega
  by_cases hl : len ≤ 1024
  · by_cases h1 : len = 1
    · exact law_1 F a0 len cap sel md w hF hl HC hg hsel h1
    · by_cases h2 : len = 2
      · rcases hsel with h | h | h
        · exact law_2a F a0 len cap sel md w hF hl HC hg h h2
        · exact law_2b F a0 len cap sel md w hF hl HC hg h h2
        · exact law_2c F a0 len cap sel md w hF hl HC hg h h2
      · exact law_A F a0 len cap sel md w hF hl HC hg hsel (by omega)
  · exact law_long a0 len cap sel w (by omega)

/-- There is an input that fits: a world that meets the listed variable's condition: the settled one, the variable's cell laid. -/
theorem fits (os : Os) (H : Type) (enc : TypeId × Value → H) (F : Stop.Interp) :
    ∃ (w : World) (tape : Tape) (i : Input), w.os = os ∧ (w.forCall tape i).Shaped Ybaf.checked.prog ∧ i.vars = [] ∧ Input.okWide Ybaf.checked.prog (w.forCall tape i) .any w.heap.size 3 i ∧
      (OpenSpec.ofChange Rows.lawS4022BStepsSpec).preRow enc Ybaf.checked.prog Ybaf.f3 [] false [("errors.errorType", Rows.laid_errors_errorType)] (w.forCall tape i).memory i.args ∧ ({ modest := false } : Assume).holds Ybaf.checked.prog (lone (Frame.enter Ybaf.checked.prog 3 i.args .normal) [] (w.forCall tape i)) ∧ F.answers tape :=
  OpenSpec.witness_stopped_at (enc := enc) (C := Ybaf.checked) (os := os) false
    { World.holding Ybaf.prog os ⟨#[], #[], []⟩ with heap := (World.holding Ybaf.prog os ⟨#[], #[], []⟩).heap.modify 0 fun
      | .cells _ t frozen => .cells #[.iface 113 (.agg #[.pointer (some ⟨1, 38, none⟩)])] t frozen
      | o => o }
    #[.slice none 0 0, .int .u8 0] rfl (by kernel_rfl) (by kernel_rfl) (by kernel_rfl)
    (OpenSpec.preRow_of_B rfl 8 (by kernel_rfl) (by kernel_rfl) (laidMetH_of_parts (laidMet_nil _ _) (by kernel_rfl))) F

set_option maxRecDepth 100000 in
theorem lifted (os : Os) (started : os.Started) (H : Type) (enc : TypeId × Value → H) :
    ReturnsInTold none {} Ybaf.checked os 3 .any Input.okWide ((OpenSpec.ofChange Rows.lawS4022BStepsSpec).preRow enc Ybaf.prog Ybaf.f3 [] false [("errors.errorType", Rows.laid_errors_errorType)]) (fun F => ((OpenSpec.ofChange Rows.lawS4022BStepsSpec).at F).post enc Ybaf.prog Ybaf.f3 false true false false) (aloneAtReturn Ybaf.prog) nothingAlways := by
  refine returnsInTold_of_row (C := Ybaf.checked) (s := OpenSpec.ofChange Rows.lawS4022BStepsSpec) (by kernel_rfl) own started (by kernel_rfl) Ybaf.func3 (fits os H enc) ?_
  intro F W base args ds gs before _ hF hval0 hW _ _ hsz hL _
  have hval : ∀ (j : Nat) t v, Ybaf.f3.params[j]? = some t → args[j]? = some v → Value.okWide Ybaf.prog W .any base t v := hval0
  have hW' := hW
  obtain ⟨p, q, hA0, hV, rfl, hfz, hnd⟩ := hW
  have hA : DataW.TrodAll enc Ybaf.prog W 0 (fun _ => true) true Ybaf.f3.params.toList args.toList ds p := hA0
  rw [Ybaf.params3] at hA hval
  obtain ⟨v0, vs0, d0, ds0, p0, q0, hargs, rfl, rfl, h0, r0⟩ := trodAll_cons hA
  obtain ⟨v1, vs1, d1, ds1, p1, q1, rfl, rfl, rfl, h1, r1⟩ := trodAll_cons r0
  obtain ⟨rfl, rfl, rfl⟩ := trodAll_nil r1
  obtain rfl : args = #[v0, v1] := by cases args; simp_all
  obtain ⟨rfl, rfl⟩ := trodVars_none hV
  obtain ⟨a0, len0, cap0, rfl⟩ := okWide_slice Ybaf.underlying22 (hval 0 22 v0 rfl rfl)
  have k0 := h0
  have lt0 : ∀ x ∈ p0, x.block < W.heap.size := by obtain ⟨m, hm⟩ := k0; exact DataW.trod_lt m _ _ _ hm
  have hw0 : ∀ k ∈ d0.weights Ybaf.prog 22, k ≤ reachBytes := by
    intro k hk
    have := List.all_eq_true.1 hsz k (DataW.weights_mem_each (j := 0) (t := 22) (d := d0) (by show (Ybaf.f3.params.toList ++ _)[0]? = _; rw [Ybaf.params3]; rfl) rfl k hk)
    simpa using this
  obtain ⟨fuel, hf⟩ := h0
  obtain ⟨md, HC⟩ := in_of hf hw0
  obtain ⟨n1, rfl, rfl, rfl, w1⟩ := open_int Ybaf.underlying5 (hval 1 5 v1 rfl rfl) h1
  clear hA0 hval0
  refine (walk F.told a0 len0 cap0 n1 md W hF HC (handle_of_laid hL) (wf_u8 w1).1).mono fun e W' ⟨he, bel⟩ => ?_
  subst he
  exact ⟨_, rfl, _, _, _, [], _, [], hW', trodAll_mk1 (shut_bool Ybaf.underlying4 _), (trodAll_cons_mk (Below.trod laidOut' (by kernel_rfl) (of_decide_eq_true (by kernel_rfl)) k0 bel lt0) (trodAll_cons_mk (shut_int Ybaf.underlying5 w1) trodAll_mk0)), rfl, bel.frame _, fun h => by cases h⟩

/-- THE STATEMENT -/
theorem proved : Rows.LawS4022BStepsToldSaid :=
  Claim7.holds_of_told_tied_any_at .later 3 Ybaf.f3 "fmt.errorf" [] [] _ true false [.handle] true (by kernel_rfl) rfl rfl rfl laidOut (by kernel_rfl) rfl ⟨rfl, rfl, rfl, rfl, rfl, rfl, rfl⟩ rfl rfl (by kernel_rfl) (by kernel_rfl) Ybaf.func3 (by kernel_rfl)
    (of_decide_eq_true (by kernel_rfl)) (of_decide_eq_true (by kernel_rfl)) stops.symm rfl stopKnobs.symm (by kernel_rfl)
    (by kernel_rfl) (by kernel_rfl) (by kernel_rfl) (by kernel_rfl) (by kernel_rfl) (by kernel_rfl) (by kernel_rfl) (by kernel_rfl) (by kernel_rfl) rfl (by kernel_rfl) rfl rfl
    rfl rfl
    rfl (by kernel_rfl) (by kernel_rfl) (by kernel_rfl) (by decide) (by kernel_rfl) lawS4022BSteps_row_tie
    (OpenClaim.moreEntering_of (by kernel_rfl) (by kernel_rfl) (by kernel_rfl) (by kernel_rfl) (by kernel_rfl) (by kernel_rfl) (by kernel_rfl) (by kernel_rfl) (by kernel_rfl) (by kernel_rfl))
    ⟨_, WideRow.started_initial, quiet _⟩
    (fun os started _ H enc _ => lifted os started H enc)
#print axioms proved
end Go.Proofs.YbulkcegsFmt.lawS4022BSteps
