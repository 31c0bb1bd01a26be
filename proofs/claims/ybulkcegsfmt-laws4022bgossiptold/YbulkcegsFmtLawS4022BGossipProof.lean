import Derived.Test.YbulkcegsFmtCards
import Derived.Test.YbulkcegsFmtTie
import Derived.Test.YbulkcegsFmtGn0
import Derived.Test.YbulkcegsFmtGn1
import Derived.Test.YbulkcegsFmtOpenG
import Derived.WalkKit
import Derived.ProofKit
import Derived.OpenShut
import Derived.ShutString
import Derived.ChangeOld
import Derived.Below
import Derived.LaidLaws
import Derived.LaidHandle
import Derived.Stop.JoinedAt
import Derived.Stop.JoinedTold
import Derived.SevenToldRow
import Derived.SevenTiedAt
namespace Go.Proofs.YbulkcegsFmt.lawS4022BGossip
open Go.ChangeShapes Go.WideShapes Go.ChangeAt Go.RowKit Go.Kit
open Go.ChangeMaps (open_string shut_string)
open Go.Extern.Stop Go.Stop Go.Extern
set_option linter.unusedVariables false

theorem own : ownKnob Ybaf.prog.godebug = none := by kernel_rfl
theorem laidOut : laidOutB Ybaf.pinned.checked.prog = true := by kernel_rfl
theorem laidOut' : laidOutB Ybaf.prog = true := by kernel_rfl
theorem stops : Ybaf.pinned.checked.prog.stops = ["fmt.errorf"] := by kernel_rfl
theorem stopKnobs : Ybaf.pinned.checked.prog.stopKnobs = [] := by kernel_rfl
theorem quiet (os : Os) : Stop.quiet Ybaf.pinned.checked.prog os := by
  intro k hk
  rw [stopKnobs] at hk
  cases hk
theorem et : Ybaf.prog.globalNamed "errors.errorType" = some 0 := by kernel_rfl
theorem rt : (Ybaf.prog.cutTypes.find? (·.1 == "internal/reflectlite.rtype")).map (·.2) = some 113 := by kernel_rfl
theorem size : Ybaf.prog.types.size = 163 := by kernel_rfl
theorem oneRow : ((List.range 163).filter fun t => Ybaf.prog.rowNamed t [101, 114, 114, 111, 114]) = [38] := by kernel_rfl

/-- What the listed variable's condition gives the walk: its one cell. -/
theorem handle_of_laid {W : World} (h : laidMetH Ybaf.prog [("errors.errorType", Rows.laid_errors_errorType)] W) : ErrT W := by
  have h' : laidMet Ybaf.prog [] W ∧ handlesMet Ybaf.prog [("errors.errorType", Rows.laid_errors_errorType)] W := h
  obtain ⟨name, u, ty, e1, e2, e3, e4, e5⟩ := h'.2 _ (List.mem_singleton.2 rfl)
  have en : name = [101, 114, 114, 111, 114] := (Option.some.inj e1).symm
  subst en
  obtain rfl := Option.some.inj (rt.symm.trans e2)
  have hm : ty ∈ (List.range 163).filter fun t => Ybaf.prog.rowNamed t [101, 114, 114, 111, 114] := List.mem_filter.2 ⟨List.mem_range.2 (by rw [← size]; exact e3), e4⟩
  rw [oneRow] at hm
  obtain rfl := List.mem_singleton.1 hm
  have hh : typeHandle Ybaf.prog 38 = .pointer (some ⟨1, 38, none⟩) := by kernel_rfl
  rw [hh] at e5
  have := World.var?_cell et e5 0
  simpa [ErrT] using this

set_option maxRecDepth 100000 in
theorem law_long (gnd : Int) (gok ghk : Bool) (a0 : Option Addr) (len cap : Nat) (w : World) (hl : 1024 < len) :
    Calls Ybaf.prog 4 #[.agg #[.int .u8 gnd, .bool gok, .bool ghk, .slice a0 len cap]] w fun e w' => e = .returned (.bool true) ∧ Below w.heap.size w w' := by
  have hgt : (1024 : Int) < (len : Int) := by omega
  go_enter Ybaf.func4, Ybaf.ntmps4
  go_wp2
  go_ret
  exact ⟨rfl, (Below.refl _ _).alloc (Nat.le_refl _) _⟩

/-- THE WALK, its ways joined. -/
theorem walk (F : Interp) (gnd : Int) (gok ghk : Bool) (a0 : Option Addr) (len cap : Nat) (md : Nat → ZM) (w : World) (hF : F.answers w.tape) (HC : InAt w a0 len md) (hg : ErrT w) :
    Calls Ybaf.prog 4 #[.agg #[.int .u8 gnd, .bool gok, .bool ghk, .slice a0 len cap]] w fun e w' => e = .returned (.bool true) ∧ Below w.heap.size w w' := by
  by_cases hl : len ≤ 1024
  · cases ghk
    · exact law_g0 F gnd gok a0 len cap md w hF hl HC hg
    · exact law_g1 F gnd gok a0 len cap md w hF hl HC hg
  · exact law_long gnd gok ghk a0 len cap w (by omega)

/-- There is an input that fits: a world that meets the listed variable's condition: the settled one, the variable's cell laid. -/
theorem fits (os : Os) (H : Type) (enc : TypeId × Value → H) (F : Stop.Interp) :
    ∃ (w : World) (tape : Tape) (i : Input), w.os = os ∧ (w.forCall tape i).Shaped Ybaf.checked.prog ∧ i.vars = [] ∧ Input.okWide Ybaf.checked.prog (w.forCall tape i) .any w.heap.size 4 i ∧
      (OpenSpec.ofChange Rows.lawS4022BGossipSpec).preRow enc Ybaf.checked.prog Ybaf.f4 [] false [("errors.errorType", Rows.laid_errors_errorType)] (w.forCall tape i).memory i.args ∧ ({ modest := false } : Assume).holds Ybaf.checked.prog (lone (Frame.enter Ybaf.checked.prog 4 i.args .normal) [] (w.forCall tape i)) ∧ F.answers tape :=
  OpenSpec.witness_stopped_at (enc := enc) (C := Ybaf.checked) (os := os) false
    { World.holding Ybaf.prog os ⟨#[], #[], []⟩ with heap := (World.holding Ybaf.prog os ⟨#[], #[], []⟩).heap.modify 0 fun
      | .cells _ t frozen => .cells #[.iface 113 (.agg #[.pointer (some ⟨1, 38, none⟩)])] t frozen
      | o => o }
    #[.agg #[.int .u8 0, .bool false, .bool false, .slice none 0 0]] rfl (by kernel_rfl) (by kernel_rfl) (by kernel_rfl)
    (OpenSpec.preRow_of_B rfl 8 (by kernel_rfl) (by kernel_rfl) (laidMetH_of_parts (laidMet_nil _ _) (by kernel_rfl))) F

set_option maxRecDepth 100000 in
theorem lifted (os : Os) (started : os.Started) (H : Type) (enc : TypeId × Value → H) :
    ReturnsInTold none {} Ybaf.checked os 4 .any Input.okWide ((OpenSpec.ofChange Rows.lawS4022BGossipSpec).preRow enc Ybaf.prog Ybaf.f4 [] false [("errors.errorType", Rows.laid_errors_errorType)]) (fun F => ((OpenSpec.ofChange Rows.lawS4022BGossipSpec).at F).post enc Ybaf.prog Ybaf.f4 false true false false) (aloneAtReturn Ybaf.prog) nothingAlways := by
  refine returnsInTold_of_row (C := Ybaf.checked) (s := OpenSpec.ofChange Rows.lawS4022BGossipSpec) (by kernel_rfl) own started (by kernel_rfl) Ybaf.func4 (fits os H enc) ?_
  intro F W base args ds gs before _ hF hval0 hW _ _ hsz hL _
  have hval : ∀ (j : Nat) t v, Ybaf.f4.params[j]? = some t → args[j]? = some v → Value.okWide Ybaf.prog W .any base t v := hval0
  have hW' := hW
  obtain ⟨p, q, hA0, hV, rfl, hfz, hnd⟩ := hW
  have hA : DataW.TrodAll enc Ybaf.prog W 0 (fun _ => true) true Ybaf.f4.params.toList args.toList ds p := hA0
  rw [Ybaf.params4] at hA hval
  obtain ⟨v0, vs0, d0, ds0, p0, q0, hargs, rfl, rfl, h0, r0⟩ := trodAll_cons hA
  obtain ⟨rfl, rfl, rfl⟩ := trodAll_nil r0
  obtain rfl : args = #[v0] := by cases args; simp_all
  obtain ⟨rfl, rfl⟩ := trodVars_none hV
  obtain ⟨cs, rfl, _⟩ := okWide_struct Ybaf.underlying58 (hval 0 58 v0 rfl rfl)
  have k0 := h0
  have lt0 : ∀ x ∈ p0, x.block < W.heap.size := by obtain ⟨m, hm⟩ := k0; exact DataW.trod_lt m _ _ _ hm
  have hw0 : ∀ k ∈ d0.weights Ybaf.prog 58, k ≤ reachBytes := by
    intro k hk
    have := List.all_eq_true.1 hsz k (DataW.weights_mem_each (j := 0) (t := 58) (d := d0) (by show (Ybaf.f4.params.toList ++ _)[0]? = _; rw [Ybaf.params4]; rfl) rfl k hk)
    simpa using this
  obtain ⟨fuel, hf⟩ := h0
  obtain ⟨gnd, gok, ghk, a0, len, cap, md, ecs, HC⟩ := gossip_of hf hw0
  obtain rfl : cs = #[.int .u8 gnd, .bool gok, .bool ghk, .slice a0 len cap] := by
    have e : cs.toList = [.int .u8 gnd, .bool gok, .bool ghk, .slice a0 len cap] := ecs
    cases cs
    simp_all
  clear hA0 hval0
  refine (walk F.told gnd gok ghk a0 len cap md W hF HC (handle_of_laid hL)).mono fun e W' ⟨he, bel⟩ => ?_
  subst he
  exact ⟨_, rfl, _, _, _, [], _, [], hW', trodAll_mk1 (shut_bool Ybaf.underlying4 _), (trodAll_cons_mk (Below.trod laidOut' (by kernel_rfl) (of_decide_eq_true (by kernel_rfl)) k0 bel lt0) trodAll_mk0), rfl, bel.frame _, fun h => by cases h⟩

/-- THE STATEMENT -/
theorem proved : Rows.LawS4022BGossipToldSaid :=
  Claim7.holds_of_told_tied_any_at .later 4 Ybaf.f4 "fmt.errorf" [] [] _ true false [.handle] true (by kernel_rfl) rfl rfl rfl laidOut (by kernel_rfl) rfl ⟨rfl, rfl, rfl, rfl, rfl, rfl, rfl⟩ rfl rfl (by kernel_rfl) (by kernel_rfl) Ybaf.func4 (by kernel_rfl)
    (of_decide_eq_true (by kernel_rfl)) (of_decide_eq_true (by kernel_rfl)) stops.symm rfl stopKnobs.symm (by kernel_rfl)
    (by kernel_rfl) (by kernel_rfl) (by kernel_rfl) (by kernel_rfl) (by kernel_rfl) (by kernel_rfl) (by kernel_rfl) (by kernel_rfl) (by kernel_rfl) rfl (by kernel_rfl) rfl rfl
    rfl rfl
    rfl (by kernel_rfl) (by kernel_rfl) (by kernel_rfl) (by decide) (by kernel_rfl) lawS4022BGossip_row_tie
    (OpenClaim.moreEntering_of (by kernel_rfl) (by kernel_rfl) (by kernel_rfl) (by kernel_rfl) (by kernel_rfl) (by kernel_rfl) (by kernel_rfl) (by kernel_rfl) (by kernel_rfl) (by kernel_rfl))
    ⟨_, WideRow.started_initial, quiet _⟩
    (fun os started _ H enc _ => lifted os started H enc)
#print axioms proved
end Go.Proofs.YbulkcegsFmt.lawS4022BGossip
