/-
  THE SHELL OF A PROOF OF 'Rows.LawS4021BAfterSaid' ('example.com/transact/transact/internal/peer.LawS4021BAfter'), WRITTEN BY PROGRAM (proof-skeleton.mjs) off the guide's own print for that function. Not trusted: Lean checks it.
  ITS HOLE IS FILLED. ALL ELSE IS THE GUIDE's TEMPLATE (howto/template/XProofs.lean) at this function's number and types: leave it.
-/
import Derived.Test.YbulkcegeRows
import Derived.WalkKit
import Derived.ProofKit
import Derived.OpenShut
import Derived.ShutString
import Derived.ChangeOld
import Derived.Below
import Derived.Test.YbulkcegeLawA
import Derived.Test.YbulkcegeLawB
namespace Go.Proofs.Ybulkcege.lawS4021BAfter
open Go.ChangeShapes Go.WideShapes Go.ChangeAt Go.RowKit
open Go.ChangeMaps (open_string shut_string)
set_option linter.unusedVariables false      -- a walk need not use every 'w<i>' (that an integer argument fits its kind)

theorem own : ownKnob Yba.prog.godebug = none := by kernel_rfl

/-! ### STEP 1: THE WALK: the Go text returns true, and nothing that was there turns. -/
theorem walk_out (a0 a1 a2 a3 a4 a5 : Int) (w : World) (hn : Hid (¬ (((((((((((-1099511627776 ≤ a0 ∧ a0 ≤ 1099511627776) ∧ -1099511627776 ≤ a1) ∧ a1 ≤ 1099511627776) ∧ -1099511627776 ≤ a2) ∧ a2 ≤ 1099511627776) ∧ -1099511627776 ≤ a3) ∧ a3 ≤ 1099511627776) ∧ -1099511627776 ≤ a4) ∧ a4 ≤ 1099511627776) ∧ -1099511627776 ≤ a5) ∧ a5 ≤ 1099511627776))) :
    Calls Yba.prog 3 #[.int .i64 a0, .int .i64 a1, .int .i64 a2, .int .i64 a3, .int .i64 a4, .int .i64 a5] w fun e w' => e = .returned (.bool true) ∧ Below w.heap.size w w' := by
  go_enter Yba.func3, Yba.ntmps3
  go_wp2_with fail
  all_goals first | (go_ret; exact ⟨rfl, Below.refl _ _⟩) | exact (hn.out (by assumption)).elim

theorem walk (a0 a1 a2 a3 a4 a5 : Int) (w : World) :
    Calls Yba.prog 3 #[.int .i64 a0, .int .i64 a1, .int .i64 a2, .int .i64 a3, .int .i64 a4, .int .i64 a5] w fun e w' => e = .returned (.bool true) ∧ Below w.heap.size w w' := by
  by_cases hn : ((((((((((-1099511627776 ≤ a0 ∧ a0 ≤ 1099511627776) ∧ -1099511627776 ≤ a1) ∧ a1 ≤ 1099511627776) ∧ -1099511627776 ≤ a2) ∧ a2 ≤ 1099511627776) ∧ -1099511627776 ≤ a3) ∧ a3 ≤ 1099511627776) ∧ -1099511627776 ≤ a4) ∧ a4 ≤ 1099511627776) ∧ -1099511627776 ≤ a5) ∧ a5 ≤ 1099511627776
  · obtain ⟨⟨⟨⟨⟨⟨⟨⟨⟨⟨⟨l0, u0⟩, l1⟩, u1⟩, l2⟩, u2⟩, l3⟩, u3⟩, l4⟩, u4⟩, l5⟩, u5⟩ := hn
    by_cases z : a5 = 0
    · subst z
      by_cases hL : a3 < 2 * a2 <;> by_cases hx : a1 + a2 < a0 + a4
      · exact law_111 a0 a1 a2 a3 a4 w l0 u0 l1 u1 l2 u2 l3 u3 l4 u4 hL hx
      · exact law_110 a0 a1 a2 a3 a4 w l0 u0 l1 u1 l2 u2 l3 u3 l4 u4 hL (Int.not_lt.mp hx)
      · exact law_101 a0 a1 a2 a3 a4 w l0 u0 l1 u1 l2 u2 l3 u3 l4 u4 (Int.not_lt.mp hL) hx
      · exact law_100 a0 a1 a2 a3 a4 w l0 u0 l1 u1 l2 u2 l3 u3 l4 u4 (Int.not_lt.mp hL) (Int.not_lt.mp hx)
    · have z5 : (a5 == 0) = false := beq_eq_false_iff_ne.2 z
      by_cases hL : a3 < 2 * a5 <;> by_cases hx : a1 + a5 < a0 + a4
      · exact law_011 a0 a1 a2 a3 a4 a5 w l0 u0 l1 u1 l2 u2 l3 u3 l4 u4 l5 u5 z5 hL hx
      · exact law_010 a0 a1 a2 a3 a4 a5 w l0 u0 l1 u1 l2 u2 l3 u3 l4 u4 l5 u5 z5 hL (Int.not_lt.mp hx)
      · exact law_001 a0 a1 a2 a3 a4 a5 w l0 u0 l1 u1 l2 u2 l3 u3 l4 u4 l5 u5 z5 (Int.not_lt.mp hL) hx
      · exact law_000 a0 a1 a2 a3 a4 a5 w l0 u0 l1 u1 l2 u2 l3 u3 l4 u4 l5 u5 z5 (Int.not_lt.mp hL) (Int.not_lt.mp hx)
  · exact walk_out a0 a1 a2 a3 a4 a5 w hn

/-! ### THE ROW's STEP: WRITTEN OUT: LEAVE IT -/
set_option maxRecDepth 100000 in
theorem lifted (os : Os) (started : os.Started) (H : Type) (enc : TypeId × Value → H) :
    ReturnsInHanded {} Yba.checked os 3 .any (Rows.lawS4021BAfterSpec.pre6 enc Yba.prog Yba.f3 Rows.lawS4021BAfterRow.domain false) (Rows.lawS4021BAfterSpec.post enc Yba.prog Yba.f3 false true false false) := by
  refine returnsInHanded_of_change (C := Yba.checked) own started (by kernel_rfl) Yba.func3
    (ChangeSpec.witness6 (enc := enc) (C := Yba.checked) false ⟨#[], #[.int .i64 0, .int .i64 0, .int .i64 0, .int .i64 0, .int .i64 0, .int .i64 0], []⟩ 8 (by kernel_rfl) (by kernel_rfl) (by kernel_rfl) (by kernel_rfl)) ?_
  intro W base args ds gs before hval0 hW hcnd _
  have hval : ∀ (j : Nat) t v, Yba.f3.params[j]? = some t → args[j]? = some v → Value.okWide Yba.prog W .any base t v := hval0
  have hW' := hW
  obtain ⟨p, q, hA0, hV, rfl, hfz, hnd⟩ := hW
  have hA : DataW.TrodAll enc Yba.prog W 0 (fun _ => true) true Yba.f3.params.toList args.toList ds p := hA0
  rw [Yba.params3] at hA hval
  obtain ⟨v0, vs0, d0, ds0, p0, q0, hargs, rfl, rfl, h0, r0⟩ := trodAll_cons hA
  obtain ⟨v1, vs1, d1, ds1, p1, q1, rfl, rfl, rfl, h1, r1⟩ := trodAll_cons r0
  obtain ⟨v2, vs2, d2, ds2, p2, q2, rfl, rfl, rfl, h2, r2⟩ := trodAll_cons r1
  obtain ⟨v3, vs3, d3, ds3, p3, q3, rfl, rfl, rfl, h3, r3⟩ := trodAll_cons r2
  obtain ⟨v4, vs4, d4, ds4, p4, q4, rfl, rfl, rfl, h4, r4⟩ := trodAll_cons r3
  obtain ⟨v5, vs5, d5, ds5, p5, q5, rfl, rfl, rfl, h5, r5⟩ := trodAll_cons r4
  obtain ⟨rfl, rfl, rfl⟩ := trodAll_nil r5
  obtain rfl : args = #[v0, v1, v2, v3, v4, v5] := by cases args; simp_all
  obtain ⟨rfl, rfl⟩ := trodVars_none hV
  obtain ⟨a0, rfl, rfl, rfl, w0⟩ := open_int Yba.underlying2 (hval 0 2 v0 rfl rfl) h0
  obtain ⟨a1, rfl, rfl, rfl, w1⟩ := open_int Yba.underlying2 (hval 1 2 v1 rfl rfl) h1
  obtain ⟨a2, rfl, rfl, rfl, w2⟩ := open_int Yba.underlying2 (hval 2 2 v2 rfl rfl) h2
  obtain ⟨a3, rfl, rfl, rfl, w3⟩ := open_int Yba.underlying2 (hval 3 2 v3 rfl rfl) h3
  obtain ⟨a4, rfl, rfl, rfl, w4⟩ := open_int Yba.underlying2 (hval 4 2 v4 rfl rfl) h4
  obtain ⟨a5, rfl, rfl, rfl, w5⟩ := open_int Yba.underlying2 (hval 5 2 v5 rfl rfl) h5
  clear hA0 hval0
  simp only [List.append_nil] at hW'
  refine (walk a0 a1 a2 a3 a4 a5 W).mono fun e W' ⟨he, bel⟩ => ?_
  subst he
  exact ⟨_, rfl, _, _, _, [], _, [], hW', trodAll_mk1 (shut_bool Yba.underlying4 _), (trodAll_cons_mk (shut_int Yba.underlying2 w0) (trodAll_cons_mk (shut_int Yba.underlying2 w1) (trodAll_cons_mk (shut_int Yba.underlying2 w2) (trodAll_cons_mk (shut_int Yba.underlying2 w3) (trodAll_cons_mk (shut_int Yba.underlying2 w4) (trodAll_cons_mk (shut_int Yba.underlying2 w5) trodAll_mk0)))))), rfl, bel.frame _, fun h => by cases h⟩

theorem over : Rows.lawS4021BAfterRow.holds Yba.pinned (OpenSpec.ofChange Rows.lawS4021BAfterSpec) :=
  OpenClaim.holds_of_wide 3 Yba.f3 rfl rfl rfl rfl rfl rfl rfl ⟨rfl, rfl, rfl, rfl, rfl⟩ rfl rfl rfl rfl rfl (by kernel_rfl) Yba.func3 (by kernel_rfl)
    (of_decide_eq_true (by kernel_rfl)) (by unfold Func.isWrapper; first | (rw [if_pos (by decide +kernel)]; kernel_rfl) | (rw [if_neg (by decide +kernel)]; exact ⟨rfl, rfl⟩))
    (fun os started H enc _ => lifted os started H enc)

/-- ████ THE STATEMENT ████ -/
theorem proved : Rows.LawS4021BAfterSaid :=
  over
#print axioms proved
end Go.Proofs.Ybulkcege.lawS4021BAfter
