import Derived.Test.YbulkcegsFmtLp
import Derived.Deep.RegionHeld3
import Derived.Deep.DrawnRows
import Derived.BigRegion
namespace Go.Proofs.YbulkcegsFmt
open Go.RowKit Go.Shelf Go.Extern.Stop Go.Stop Go.Extern
set_option linter.unusedVariables false
attribute [local go_sem] Oper.semAt_some
attribute [local go_sem ↓] Go.wp_at_zero Go.wp_at_succ

theorem conflicts_q {x p : Bool} {st : Int} {b : Nat} {x' p' : Bool} {st' : Int} {b' : Nat} {xs ys : List Int} {same : Bool} (hs : Hid (same = ((strOfNums xs).toList == (strOfNums ys).toList))) (hn : xs.length ≤ 140737488351232) (hn' : ys.length ≤ 140737488351232) {ok ok' : Bool} {w : World} (h1 : DataAt w b xs ok) (h2 : DataAt w b' ys ok') :
    Calls Ybaf.prog 21 #[msgV x p st b (xs.length + 64), msgV x' p' st' b' (ys.length + 64)] w fun e w' => e = .returned (.bool (!same)) ∧ Below w.heap.size w w' := by
  refine (conflicts_calls x p st b xs.length x' p' st' b' ys.length xs ys (by omega) (by omega) w (h1.bytes _) (h2.bytes _)).mono ?_
  rw [← hs.out]
  exact fun _ _ h => h
def IsNil (e : Ending) (w w' : World) : Prop := e = .returned .nilIface ∧ Below w.heap.size w w'
def code2 (p p' q ok ok' x x' : Bool) (st st' : Int) (same : Bool) : Nat := if (p && p') = false then 0 else if q = false then 1 else if (x == x' && ok && ok' && decide (st = st') && !same) = true then 2 else 0
def AnsK (k : Nat) (x : Bool) (e : Ending) (w w' : World) : Prop := match k with
  | 0 => IsPlain e w w'
  | 1 => IsNoKey x e w w'
  | _ => IsNil e w w'

def B2 (w : World) (rb kb D pb : Nat) (x p : Bool) (st : Int) (b : Nat) (xs : List Int) (ok : Bool) (x' p' : Bool) (st' : Int) (b' : Nat) (ys : List Int) (ok' : Bool) (W : World) : Prop :=
  DSt w W rb kb D ∧ MsgAt W pb 0 x p st b (xs.length + 64) ∧ MsgAt W pb 1 x' p' st' b' (ys.length + 64) ∧ DataAt W b xs ok ∧ DataAt W b' ys ok'
theorem B2.below {w : World} {rb kb D pb : Nat} {x p : Bool} {st : Int} {b : Nat} {xs : List Int} {ok : Bool} {x' p' : Bool} {st' : Int} {b' : Nat} {ys : List Int} {ok' : Bool} {W W' : World}
    (h : B2 w rb kb D pb x p st b xs ok x' p' st' b' ys ok' W) (hpb : pb < w.heap.size) (hb : Below W.heap.size W W') : B2 w rb kb D pb x p st b xs ok x' p' st' b' ys ok' W' := by
  obtain ⟨h1, h2, h3, h4, h5⟩ := h
  have hs := h1.1.1.size
  exact ⟨h1.below hb, h2.below hb (by omega), h3.below hb (by omega), h4.below hb h4.2.2, h5.below hb h5.2.2⟩

set_option maxRecDepth 100000 in
set_option maxHeartbeats 8000000 in
theorem check2 (F : Interp) (pb c rb kb : Nat) (x p : Bool) (st : Int) (b : Nat) (xs : List Int) (ok : Bool) (x' p' : Bool) (st' : Int) (b' : Nat) (ys : List Int) (ok' : Bool) (ks : List Bool) (q : Bool) (hq : q = ks.contains x) (same : Bool) (hsame : same = ((strOfNums xs).toList == (strOfNums ys).toList)) (w : World) (hF : F.answers w.tape) (hpb : pb < w.heap.size)
    (hm : MsgAt w pb 0 x p st b (xs.length + 64)) (hm' : MsgAt w pb 1 x' p' st' b' (ys.length + 64))
    (hxs : xs.length ≤ 140737488351232) (hys : ys.length ≤ 140737488351232) (hd : DataAt w b xs ok) (hd' : DataAt w b' ys ok') (hk : KeysAt w kb ks) :
    Calls Ybaf.prog 9 #[.slice (some ⟨pb, 0, none⟩) 2 c, .iface 43 (.pointer (some ⟨rb, 0, none⟩)), keysV kb] w fun e w' => AnsK (code2 p p' q ok ok' x x' st st' same) x e w w' := by
  have HQ : Hid (q = ks.contains x) := hq
  have HS : Hid (same = ((strOfNums xs).toList == (strOfNums ys).toList)) := hsame
  clear hq hsame
  unfold keysV
  have S0 := CkSt.start w rb kb
  refine (callsIn_wide (n := 6)).1 ?_
  refine callsIn_of_wp_marks Ybaf.func9 rfl trivial ?_ rfl
  simp only [Ybaf.ntmps9, List.size_toArray, List.length_cons, List.length_nil, Nat.reduceAdd, Nat.reduceSub, Array.replicate_succ, Array.replicate_zero, List.push_toArray, List.append_toArray, List.nil_append, List.cons_append]
  refine wpIn_wide.2 ?_
  go_wp2_with (first
    | (go_at_call 14; refine (kind2 pb c x p st b (xs.length + 64) x' p' st' b' (ys.length + 64) _ (hm.below S0.1 hpb) (hm'.below S0.1 hpb)).mono ?_; rintro e W1 ⟨rfl, hb1⟩; have S1 := S0.below hb1 (by simp); clear hb1 S0)
    | (go_at_call 16; refine (nests2 pb c x p st b (xs.length + 64) x' p' st' b' (ys.length + 64) _ (hm.below S1.1 hpb) (hm'.below S1.1 hpb)).mono ?_; rintro e W2 ⟨rfl, hb2⟩; have S2 := S1.below hb2 S1.2.2.2.2.2.2; clear hb2 S1))
  have g0 : W2.cell? ⟨pb, 0, none⟩ = some (.iface 34 (msgV x p st b (xs.length + 64))) := hm.below S2.1 hpb
  have g1 : W2.cell? ⟨pb, 1, none⟩ = some (.iface 34 (msgV x' p' st' b' (ys.length + 64))) := hm'.below S2.1 hpb
  unfold msgV at g0 g1
  have hp2 : pb < W2.heap.size := by have := S2.1.size; omega
  have hp3 : pb < W2.heap.size + 1 := by omega
  have hp4 : pb < W2.heap.size + 1 + 1 := by omega
  refine abs_act ?_
  intro A0 hA0
  refine merge_wp (fun A W => ∃ B8 B9, A = { tmps := (((((((((A0.tmps.setIfInBounds 35 (.slice (some ⟨pb, 0, none⟩) 2 c)).setIfInBounds 36 (.pointer (some ⟨pb, 0, none⟩))).setIfInBounds 37 (.iface 34 (msgV x p st b (xs.length + 64)))).setIfInBounds 38 (msgV x p st b (xs.length + 64))).setIfInBounds 39 (.slice (some ⟨pb, 0, none⟩) 2 c)).setIfInBounds 40 (.pointer (some ⟨pb, 1, none⟩))).setIfInBounds 41 (.iface 34 (msgV x' p' st' b' (ys.length + 64)))).setIfInBounds 42 (msgV x' p' st' b' (ys.length + 64))).setIfInBounds 8 (.pointer (some ⟨B8, 0, none⟩))).setIfInBounds 9 (.pointer (some ⟨B9, 0, none⟩)), defers := [] }
    ∧ MsgBox W B8 x p st b (xs.length + 64) ∧ MsgBox W B9 x' p' st' b' (ys.length + 64) ∧ Below W2.heap.size W2 W) ?r ?s
  case r =>
    rw [hA0]
    have HA : Hid (A0 = _) := hA0
    clear hA0
    go_region_held3 (fun w' => w'.cell? ⟨pb, 0, none⟩ = some (.iface 34 (.agg #[.string (nm x), .string (pn p), .int .u64 st, .slice none 0 0, .slice none 0 0, .slice (some ⟨b, 0, none⟩) (xs.length + 64) (xs.length + 64), .int .i64 0])) ∧ w'.cell? ⟨pb, 1, none⟩ = some (.iface 34 (.agg #[.string (nm x'), .string (pn p'), .int .u64 st', .slice none 0 0, .slice none 0 0, .slice (some ⟨b', 0, none⟩) (ys.length + 64) (ys.length + 64), .int .i64 0]))) (go_simp) (fail)
    all_goals refine ⟨rfl, _, _, rfl, ?_, ?_, ?_⟩
    all_goals first
      | (refine ⟨?_, ?_, ?_, ?_, ?_, ?_, ?_⟩ <;> go_simp)
      | (repeat (first | exact Below.refl _ _ | apply Below.drew | refine Below.alloc ?_ (by first | omega | (simp <;> omega)) _))
  rintro A W2b ⟨B8, B9, rfl, mb8, mb9, hb2b⟩
  rw [hA0]
  simp only [List.setIfInBounds_toArray, List.set_cons_zero, List.set_cons_succ]
  clear hA0 g0 g1 hp2 hp3 hp4
  have S2b := S2.below hb2b S2.2.2.2.2.2.2
  clear S2 hb2b
  have c81 := mb8.2.1
  have c91 := mb9.2.1
  have c60 := S2b.2.2.2.2.1
  have c61 := S2b.2.2.2.2.2.1
  by_cases hpp : p = p'
  · subst hpp
    go_wp2_with (first
      | (go_at_call 17; refine (steps_calls _ _ _ _).mono ?_; rintro e W3 ⟨rfl, rfl⟩; have S3 := (S2b.alloc (.cells #[.slice (some ⟨pb, 0, none⟩) 2 c] 24)).alloc (.cells #[.int .i64 16] 3)))
    refine abs_act ?_
    intro A0 hA0
    have hs2 := S2b.2.2.2.2.2.2
    have hsz : ((W2b.alloc (.cells #[.slice (some ⟨pb, 0, none⟩) 2 c] 24)).alloc (.cells #[.int .i64 16] 3)).heap.size = W2b.heap.size + 2 := by simp
    have hbp : ((W2b.alloc (.cells #[.slice (some ⟨pb, 0, none⟩) 2 c] 24)).alloc (.cells #[.int .i64 16] 3)).cell? ⟨W2b.heap.size, 0, none⟩ = some (.slice (some ⟨pb, 0, none⟩) 2 c) := by go_simp
    have hbd : ((W2b.alloc (.cells #[.slice (some ⟨pb, 0, none⟩) 2 c] 24)).alloc (.cells #[.int .i64 16] 3)).cell? ⟨W2b.heap.size + 1, 0, none⟩ = some (.int .i64 16) := by go_simp
    generalize hW3 : (W2b.alloc (.cells #[.slice (some ⟨pb, 0, none⟩) 2 c] 24)).alloc (.cells #[.int .i64 16] 3) = W3 at S3 hsz hbp hbd ⊢
    have hm3 := hm.below S3.1 hpb
    have hm3' := hm'.below S3.1 hpb
    have hk3 := hk.below S3.1
    have hd3 := hd.below S3.1 hd.2.2
    have hd3' := hd'.below S3.1 hd'.2.2
    clear S2b hW3 hm hm' hk hd hd' c60 c61 c81 c91 mb8 mb9
    refine rf_plain ?_
    refine wpIn_rangeFunc_ownH (F := Fence.wide) (n := 6) rfl (by omega) (gf := 28) (lb := #[.pointer (some ⟨W2b.heap.size, 0, none⟩), .pointer (some ⟨W2b.heap.size + 1, 0, none⟩)]) (by rw [hA0]; rfl) trivial (enters_of Ybaf.func28 (by kernel_rfl) rfl)
      (steps_stops Fence.wide rfl trivial trivial rfl 5 W3.heap.size W2b.heap.size (W2b.heap.size + 1) [(x, p, st, b, xs.length + 64), (x', p, st', b', ys.length + 64)] (by simp) pb c (by omega) W3 (Nat.le_refl _) (by omega) (by omega) (by
        intro k hk
        have hk' : k = 0 ∨ k = 1 := by simp at hk; omega
        rcases hk' with rfl | rfl
        · exact hm3
        · exact hm3') hbp hbd) belowK_t (belowK_b (Nat.le_refl _)) (Below.refl _ _) (fun _ => rfl)
      (LpI W3) (LpX w) (LpI.own W3) (LpX.own w W3 (by omega)) ⟨by simp, Below.refl _ _⟩ (LpA W3 A0) (LpA.own W3 A0) ?assign ?body ?done ?stop
    case assign =>
      rintro l pre ⟨x1, p1, st1, b1, n1⟩ W K hi hK
      subst hA0
      simp only [Msg.v, msgV]
      gi_wp2
      exact hK _ _ ((KeepsOthers.alloc _ _).from _) ((Below.refl _ W).alloc hi.2.size _) ⟨hi.1, hi.2.alloc hi.2.size _⟩ ⟨W.heap.size, rfl, by go_simp⟩
    case body =>
      rintro l pre ⟨x', p', st', b', n'⟩ a' W hl ⟨r, hr⟩ ⟨hall, hB⟩ ⟨Bx, rfl, hbx⟩ hlt
      have S4 := S3.below hB S3.2.2.2.2.2.2
      have c4 := S4.2.1
      have hnm := Ybaf.mName
      have h11 : 1 ≤ 6 - 1 - 1 := by omega
      have hmx : Ybaf.prog.follows .mixedOrders = true := by kernel_rfl
      rw [hA0]
      have HA : Hid (A0 = _) := hA0
      clear hA0
      simp only [Msg.v, msgV, List.setIfInBounds_toArray, List.set_cons_zero, List.set_cons_succ] at hbx ⊢
      gi_wp2
      refine merge_in { tmps := ((((((A0.tmps.setIfInBounds 58 (Msg.v (x', p', st', b', n'))).setIfInBounds 10 (.pointer (some ⟨Bx, 0, none⟩))).setIfInBounds 59 (.pointer (some ⟨Bx, 1, none⟩))).setIfInBounds 60 (.string (pn p'))).setIfInBounds 61 (.iface 43 (.pointer (some ⟨rb, 0, none⟩)))).setIfInBounds 62 (.string (pn true))).setIfInBounds 63 (.bool (!p')), defers := [] } W.drew ?rb ?sb
      case rb =>
        gi_region_with_o (refine ⟨trivial, ?_⟩; gi_at_call 62; refine (CallsIn.inRound l (callsIn_wide.2 (Name_calls _ _))).mono ?_; rintro e w' ⟨rfl, rfl⟩)
        all_goals (refine ⟨rfl, ?_, rfl⟩; rw [HA.out]; simp only [Msg.v, msgV, List.setIfInBounds_toArray, List.set_cons_zero, List.set_cons_succ])
      rw [HA.out]
      simp only [Msg.v, msgV, List.setIfInBounds_toArray, List.set_cons_zero, List.set_cons_succ]
      clear HA
      cases p'
      · gi_wp2
        gi_region_with_o (first
          | (refine ⟨trivial, ?_⟩; gi_at_call 62; refine (CallsIn.inRound l (callsIn_wide.2 (Name_calls _ _))).mono ?_; rintro e w' ⟨rfl, rfl⟩)
          | (refine ⟨trivial, ?_⟩; gi_at_call 15; refine (CallsIn.inRound l (callsIn_wide.2 (efmt3 F (pn false) (pn true) _ _ (by exact S4.answers hF) (by go_simp) (by go_simp)))).mono ?_; rintro e w' ⟨ad, rfl, hb⟩; have hbb := Below.trans (b := (W.alloc _).drew.drew) ((((Below.refl W.heap.size W).alloc (Nat.le_refl _) _).drew).drew) (hb.mono (by simp)); clear hb; have S6 := S4.below hbb S4.2.2.2.2.2.2; have h61 := S6.2.2.2.2.1; have h62 := S6.2.2.2.2.2.1))
        all_goals gi_wp2
        all_goals exact ⟨((keepsOthers_of_below hbb).trans (KeepsOthers.setCell _ _ _)).from _, ⟨rfl, ⟨_, List.mem_append_right _ (List.mem_singleton.2 rfl), rfl⟩, ad, World.cell?_setCell_same' _ _ _ (by rw [h61]; rfl)⟩, S6.1.setCell (p := ⟨w.heap.size + 1 + 1, 0, none⟩) (by show w.heap.size ≤ w.heap.size + 1 + 1; omega) _⟩
      · gi_wp2
        exact ⟨(KeepsOthers.drew _).from _, (Below.refl _ _).drew, ⟨by simpa using hall, hB.drew⟩⟩
    case done =>
      rintro D ys0 W hD rfl ⟨hall, hB⟩ hK
      obtain rfl : p = true := hall _ (List.mem_cons_self ..)
      have D7 : DSt w W rb kb D := ⟨S3.below hB S3.2.2.2.2.2.2, hK, by omega⟩
      have X7 : B2 w rb kb D pb x true st b xs ok x' true st' b' ys ok' W := ⟨D7, hm3.below hB (by omega), hm3'.below hB (by omega), hd3.below hB hd3.2.2, hd3'.below hB hd3'.2.2⟩
      have hm7 := X7.2.1
      have hk7 := hk3.below hB
      clear hm3 hm3' hk3 hd3 hd3' hall hB hK S3 hbp hbd
      subst hA0
      have c50 := D7.1.2.2.1
      cases q
      · go_wp2_with (first
          | (go_at_call 18; refine (node_calls pb 2 c x true st b _ _ (by omega) hm7).mono ?_; rintro e W8 ⟨rfl, hb8⟩; have D8 := D7.below hb8; have hk8 := hk7.below hb8; clear hb8 D7 hk7 c50 X7; have c51 := D8.1.2.2.1)
          | (go_at_call 23; refine (keyOf_no HQ hk8).mono ?_; rintro e W9 ⟨rfl, hb9⟩; have D9 := D8.below hb9; clear hb9 D8 hk8 c51; have D10 := (D9.alloc (.cells #[.string (nm x)] 9)).alloc (.cells #[.slice (some ⟨W9.heap.size, 0, none⟩) 1 1] 42); have c60 := D10.1.2.2.2.2.1; have c61 := D10.1.2.2.2.2.2.1)
          | (go_at_call 19; refine (noKeyFor_calls _ _).mono ?_; rintro e w' ⟨rfl, rfl⟩))
        obtain ⟨hK', hc', hB', hco⟩ := D10.fin (.iface 40 (.pointer (some ⟨W9.heap.size + 1, 0, none⟩)))
        have hs9 := D9.1.2.2.2.2.2.2
        refine ⟨by simp, .inl ⟨_, _, rfl, run_takeDeferred hK', ?_⟩⟩
        refine ⟨.iface 40 (.pointer (some ⟨W9.heap.size + 1, 0, none⟩)), by rw [results_cell1 rfl]; go_simp, ?_⟩
        exact ⟨⟨_, W9.heap.size, rfl, hco _ _ (by show W9.heap.size + 1 ≠ _; omega) (by go_simp), hco _ _ (by show W9.heap.size ≠ _; omega) (by go_simp)⟩, hB'⟩
      · have hsg := Ybaf.mSigner
        have hse := Ybaf.mSealed
        go_wp2_with (first
          | (go_at_call 18; refine (node_calls pb 2 c x true st b _ _ (by omega) hm7).mono ?_; rintro e W8 ⟨rfl, hb8⟩; have X8 := X7.below hpb hb8; have hk8 := hk7.below hb8; clear hb8 D7 hk7 c50 hm7 X7; have c51 := X8.1.1.2.2.1)
          | (go_at_call 23; refine (keyOf_yes HQ hk8).mono ?_; rintro e W9 ⟨gk, rfl, hb9⟩; have X9 := X8.below hpb hb9; clear hb9 X8 hk8 c51))
        have c9 : W9.cell? ⟨pb, 0, none⟩ = some (.iface 34 (msgV x true st b (xs.length + 64))) := X9.2.1
        unfold msgV at c9
        refine wp_loop_rounds 3 ?_
        rw [rounds_succ]
        go_wp2_with (go_at_call 59; refine (signer_calls x true st b _ _).mono ?_; rintro e w' ⟨rfl, rfl⟩)
        refine abs_world (B2 w rb kb D pb x true st b xs ok x' true st' b' ys ok') (X9.below hpb ((Below.refl _ _).alloc (Nat.le_refl _) _)) ?_
        clear X9 c9
        rintro W10 X10
        have c10 := X10.1.1.2.2.2.1
        have e10 := X10.2.2.2.1.2.1
        have hs10 := X10.1.1.1.size
        have t1 : w.heap.size + 1 < W10.heap.size := by have := X10.1.1.2.2.2.2.2.2; omega
        have t2 : b < W10.heap.size := X10.2.2.2.1.2.2
        cases ok
        · have HC : Hid (code2 true true true false ok' x x' st st' same = 0) := by
            show code2 true true true false ok' x x' st st' same = 0
            simp [code2]
          simp only [Bool.false_eq_true, if_false] at e10
          go_region_held3 (fun w' => w'.cell? ⟨w.heap.size + 1, 1, none⟩ = some (.func (.func 24) #[] #[]) ∧ w'.cell? ⟨b, xs.length + 63, none⟩ = some (.int .u8 1)) (go_simp)
            (first | (go_at_call 38; refine (sealed_calls x true st b (xs.length + 64) (by omega) _).mono ?_; rintro e w' ⟨rfl, rfl⟩) | (go_at_call 24; refine (verifies_calls gk b (xs.length + 64) 32 (xs.length + 64) 1 _ (by omega) (by omega) (by go_simp)).mono ?_; rintro e w' ⟨rfl, rfl⟩))
          go_wp2_with (go_at_call 15; refine (efmt5 F 1 (nm x) _ _ (by exact X10.1.1.answers hF) (by go_simp) (by go_simp)).mono ?_; rintro e w' ⟨ad, rfl, hb⟩; have D11 : DSt w w' rb kb D := X10.1.below (Below.trans (by repeat (first | exact Below.refl _ _ | apply Below.drew | refine Below.alloc ?_ (by first | omega | (simp <;> omega)) _)) (hb.mono (by first | omega | (simp <;> omega)))); clear hb; have c60 := D11.1.2.2.2.2.1; have c61 := D11.1.2.2.2.2.2.1)
          obtain ⟨hK', hc', hB', hco⟩ := D11.fin (.iface 66 (.pointer (some ad)))
          refine ⟨by simp, .inl ⟨_, _, rfl, run_takeDeferred hK', ?_⟩⟩
          refine ⟨.iface 66 (.pointer (some ad)), by rw [results_cell1 rfl]; go_simp, ?_⟩
          rw [HC.out]
          exact ⟨⟨ad, rfl⟩, hB'⟩
        · simp only [if_true] at e10
          go_region_held3 (fun w' => w'.cell? ⟨w.heap.size + 1, 1, none⟩ = some (.func (.func 24) #[] #[]) ∧ w'.cell? ⟨b, xs.length + 63, none⟩ = some (.int .u8 0)) (go_simp)
            (first | (go_at_call 38; refine (sealed_calls x true st b (xs.length + 64) (by omega) _).mono ?_; rintro e w' ⟨rfl, rfl⟩) | (go_at_call 24; refine (verifies_calls gk b (xs.length + 64) 32 (xs.length + 64) 0 _ (by omega) (by omega) (by go_simp)).mono ?_; rintro e w' ⟨rfl, rfl⟩))
          have c9 : W10.cell? ⟨pb, 1, none⟩ = some (.iface 34 (msgV x' true st' b' (ys.length + 64))) := X10.2.2.1
          unfold msgV at c9
          have t3 : pb < W10.heap.size := by omega
          go_wp2_with fail
          rw [rounds_succ]
          by_cases hxx : x' = x
          · subst hxx
            go_wp2_with (go_at_call 59; refine (signer_calls x' true st' b' _ _).mono ?_; rintro e w' ⟨rfl, rfl⟩)
            refine abs_world (B2 w rb kb D pb x' true st b xs true x' true st' b' ys ok') (X10.below hpb (by repeat (first | exact Below.refl _ _ | apply Below.drew | refine Below.alloc ?_ (by first | omega | (simp <;> omega)) _))) ?_
            clear X10 c9 c10 e10 hs10 t1 t2 t3
            rintro W11 X11
            have c10 := X11.1.1.2.2.2.1
            have e10 := X11.2.2.2.2.2.1
            have hs10 := X11.1.1.1.size
            have t1 : w.heap.size + 1 < W11.heap.size := by have := X11.1.1.2.2.2.2.2.2; omega
            have t2 : b' < W11.heap.size := X11.2.2.2.2.2.2
            cases ok'
            · have HC : Hid (code2 true true true true false x' x' st st' same = 0) := by
                show code2 true true true true false x' x' st st' same = 0
                simp [code2]
              simp only [Bool.false_eq_true, if_false] at e10
              go_region_held3 (fun w' => w'.cell? ⟨w.heap.size + 1, 1, none⟩ = some (.func (.func 24) #[] #[]) ∧ w'.cell? ⟨b', ys.length + 63, none⟩ = some (.int .u8 1)) (go_simp)
                (first | (go_at_call 38; refine (sealed_calls x' true st' b' (ys.length + 64) (by omega) _).mono ?_; rintro e w' ⟨rfl, rfl⟩) | (go_at_call 24; refine (verifies_calls gk b' (ys.length + 64) 32 (ys.length + 64) 1 _ (by omega) (by omega) (by go_simp)).mono ?_; rintro e w' ⟨rfl, rfl⟩))
              go_wp2_with (go_at_call 15; refine (efmt5 F 2 (nm x') _ _ (by exact X11.1.1.answers hF) (by go_simp) (by go_simp)).mono ?_; rintro e w' ⟨ad, rfl, hb⟩; have D11 : DSt w w' rb kb D := X11.1.below (Below.trans (by repeat (first | exact Below.refl _ _ | apply Below.drew | refine Below.alloc ?_ (by first | omega | (simp <;> omega)) _)) (hb.mono (by first | omega | (simp <;> omega)))); clear hb; have c60 := D11.1.2.2.2.2.1; have c61 := D11.1.2.2.2.2.2.1)
              obtain ⟨hK', hc', hB', hco⟩ := D11.fin (.iface 66 (.pointer (some ad)))
              refine ⟨by simp, .inl ⟨_, _, rfl, run_takeDeferred hK', ?_⟩⟩
              refine ⟨.iface 66 (.pointer (some ad)), by rw [results_cell1 rfl]; go_simp, ?_⟩
              rw [HC.out]
              exact ⟨⟨ad, rfl⟩, hB'⟩
            · simp only [if_true] at e10
              go_region_held3 (fun w' => w'.cell? ⟨w.heap.size + 1, 1, none⟩ = some (.func (.func 24) #[] #[]) ∧ w'.cell? ⟨b', ys.length + 63, none⟩ = some (.int .u8 0)) (go_simp)
                (first | (go_at_call 38; refine (sealed_calls x' true st' b' (ys.length + 64) (by omega) _).mono ?_; rintro e w' ⟨rfl, rfl⟩) | (go_at_call 24; refine (verifies_calls gk b' (ys.length + 64) 32 (ys.length + 64) 0 _ (by omega) (by omega) (by go_simp)).mono ?_; rintro e w' ⟨rfl, rfl⟩))
              have g0 : W11.cell? ⟨pb, 0, none⟩ = some (.iface 34 (msgV x' true st b (xs.length + 64))) := X11.2.1
              have g1 : W11.cell? ⟨pb, 1, none⟩ = some (.iface 34 (msgV x' true st' b' (ys.length + 64))) := X11.2.2.1
              unfold msgV at g0 g1
              have t3 : pb < W11.heap.size := by omega
              have t4 : pb < W11.heap.size + 1 := by omega
              have t5 : pb < W11.heap.size + 1 + 1 := by omega
              go_wp2_with fail
              rw [rounds_succ]
              go_wp2_with fail
              refine abs_world (B2 w rb kb D pb x' true st b xs true x' true st' b' ys true) (X11.below hpb (by repeat (first | exact Below.refl _ _ | apply Below.drew | refine Below.alloc ?_ (by first | omega | (simp <;> omega)) _))) ?_
              clear X11 c10 e10 hs10 t1 t2 t3 t4 t5 g0 g1
              rintro W12 X12
              have hs10 := X12.1.1.1.size
              have g0 : W12.cell? ⟨pb, 0, none⟩ = some (.iface 34 (msgV x' true st b (xs.length + 64))) := X12.2.1
              have g1 : W12.cell? ⟨pb, 1, none⟩ = some (.iface 34 (msgV x' true st' b' (ys.length + 64))) := X12.2.2.1
              unfold msgV at g0 g1
              have t3 : pb < W12.heap.size := by omega
              have t4 : pb < W12.heap.size + 1 := by omega
              have t5 : pb < W12.heap.size + 1 + 1 := by omega
              refine abs_act ?_
              intro A0 hA0
              refine merge_wp (fun A W => ∃ B8 B9, A = { tmps := (((((((((A0.tmps.setIfInBounds 150 (.slice (some ⟨pb, 0, none⟩) 2 c)).setIfInBounds 151 (.pointer (some ⟨pb, 0, none⟩))).setIfInBounds 152 (.iface 34 (msgV x' true st b (xs.length + 64)))).setIfInBounds 153 (msgV x' true st b (xs.length + 64))).setIfInBounds 154 (.slice (some ⟨pb, 0, none⟩) 2 c)).setIfInBounds 155 (.pointer (some ⟨pb, 1, none⟩))).setIfInBounds 156 (.iface 34 (msgV x' true st' b' (ys.length + 64)))).setIfInBounds 157 (msgV x' true st' b' (ys.length + 64))).setIfInBounds 17 (.pointer (some ⟨B8, 0, none⟩))).setIfInBounds 18 (.pointer (some ⟨B9, 0, none⟩)), defers := A0.defers }
                ∧ MsgBox W B8 x' true st b (xs.length + 64) ∧ MsgBox W B9 x' true st' b' (ys.length + 64) ∧ Below W12.heap.size W12 W) ?r2 ?s2
              case r2 =>
                rw [hA0]
                have HA : Hid (A0 = _) := hA0
                clear hA0
                go_region_held3 (fun w' => w'.cell? ⟨pb, 0, none⟩ = some (.iface 34 (.agg #[.string (nm x'), .string (pn true), .int .u64 st, .slice none 0 0, .slice none 0 0, .slice (some ⟨b, 0, none⟩) (xs.length + 64) (xs.length + 64), .int .i64 0])) ∧ w'.cell? ⟨pb, 1, none⟩ = some (.iface 34 (.agg #[.string (nm x'), .string (pn true), .int .u64 st', .slice none 0 0, .slice none 0 0, .slice (some ⟨b', 0, none⟩) (ys.length + 64) (ys.length + 64), .int .i64 0]))) (go_simp) (fail)
                all_goals refine ⟨rfl, _, _, rfl, ?_, ?_, ?_⟩
                all_goals first
                  | (refine ⟨?_, ?_, ?_, ?_, ?_, ?_, ?_⟩ <;> go_simp)
                  | (repeat (first | exact Below.refl _ _ | apply Below.drew | refine Below.alloc ?_ (by first | omega | (simp <;> omega)) _))
              rintro A W13 ⟨B17, B18, rfl, mb8, mb9, hb13⟩
              rw [hA0]
              simp only [List.setIfInBounds_toArray, List.set_cons_zero, List.set_cons_succ]
              clear hA0 g0 g1 t3 t4 t5
              have X13 := X12.below hpb hb13
              clear X12 hb13
              obtain ⟨c80, c81, c82, c83, c84, c85, c86⟩ := mb8
              obtain ⟨c90, c91, c92, c93, c94, c95, c96⟩ := mb9
              have l8 := World.block_lt_of_cell? W13 _ c80
              have l9 := World.block_lt_of_cell? W13 _ c90
              simp only at l8 l9
              have c60 := X13.1.1.2.2.2.2.1
              have c61 := X13.1.1.2.2.2.2.2.1
              by_cases hst : st = st'
              · subst hst
                cases same
                · have HC : Hid (code2 true true true true true x' x' st st false = 2) := by
                    show code2 true true true true true x' x' st st false = 2
                    simp [code2]
                  go_wp2_with (go_at_call 21; refine (conflicts_q HS hxs hys X13.2.2.2.1 X13.2.2.2.2).mono ?_; rintro e w' ⟨rfl, hb⟩; have D11 : DSt w w' rb kb D := X13.1.below hb; clear hb; have c62 := D11.1.2.2.2.2.1; have c63 := D11.1.2.2.2.2.2.1)
                  obtain ⟨hK', hc', hB', hco⟩ := D11.fin .nilIface
                  refine ⟨by simp, .inl ⟨_, _, rfl, run_takeDeferred hK', ?_⟩⟩
                  refine ⟨.nilIface, by rw [results_cell1 rfl]; go_simp, ?_⟩
                  rw [HC.out]
                  exact ⟨rfl, hB'⟩
                · have HC : Hid (code2 true true true true true x' x' st st true = 0) := by
                    show code2 true true true true true x' x' st st true = 0
                    simp [code2]
                  go_wp2_with (first
                    | (go_at_call 21; refine (conflicts_q HS hxs hys X13.2.2.2.1 X13.2.2.2.2).mono ?_; rintro e W14 ⟨rfl, hb⟩; have D11 : DSt w W14 rb kb D := X13.1.below hb; have d2 := (hb.cell (p := ⟨B17, 2, none⟩) l8).trans c82; clear hb)
                    | (go_at_call 15; refine (efmt8 F st _ _ (by exact D11.1.answers hF) (by go_simp)).mono ?_; rintro e w' ⟨ad, rfl, hb⟩; have D12 : DSt w w' rb kb D := D11.below (Below.trans (by repeat (first | exact Below.refl _ _ | apply Below.drew | refine Below.alloc ?_ (by first | omega | (simp <;> omega)) _)) (hb.mono (by first | omega | (simp <;> omega)))); clear hb; have c62 := D12.1.2.2.2.2.1; have c63 := D12.1.2.2.2.2.2.1))
                  obtain ⟨hK', hc', hB', hco⟩ := D12.fin (.iface 66 (.pointer (some ad)))
                  refine ⟨by simp, .inl ⟨_, _, rfl, run_takeDeferred hK', ?_⟩⟩
                  refine ⟨.iface 66 (.pointer (some ad)), by rw [results_cell1 rfl]; go_simp, ?_⟩
                  rw [HC.out]
                  exact ⟨⟨ad, rfl⟩, hB'⟩
              · have hs1 : (st == st') = false := beq_eq_false_iff_ne.2 hst
                have HC : Hid (code2 true true true true true x' x' st st' same = 0) := by
                  show code2 true true true true true x' x' st st' same = 0
                  simp [code2, hst]
                go_wp2_with (go_at_call 15; refine (efmt7 F st st' _ _ (by exact X13.1.1.answers hF) (by go_simp) (by go_simp)).mono ?_; rintro e w' ⟨ad, rfl, hb⟩; have D11 : DSt w w' rb kb D := X13.1.below (Below.trans (by repeat (first | exact Below.refl _ _ | apply Below.drew | refine Below.alloc ?_ (by first | omega | (simp <;> omega)) _)) (hb.mono (by first | omega | (simp <;> omega)))); clear hb; have c62 := D11.1.2.2.2.2.1; have c63 := D11.1.2.2.2.2.2.1)
                obtain ⟨hK', hc', hB', hco⟩ := D11.fin (.iface 66 (.pointer (some ad)))
                refine ⟨by simp, .inl ⟨_, _, rfl, run_takeDeferred hK', ?_⟩⟩
                refine ⟨.iface 66 (.pointer (some ad)), by rw [results_cell1 rfl]; go_simp, ?_⟩
                rw [HC.out]
                exact ⟨⟨ad, rfl⟩, hB'⟩
          · obtain rfl : x' = !x := by cases x <;> cases x' <;> simp_all
            clear hxx
            have HC : Hid (code2 true true true true ok' x (!x) st st' same = 0) := by
              show code2 true true true true ok' x (!x) st st' same = 0
              cases x <;> simp [code2]
            go_wp2_with (first
              | (go_at_call 59; refine (signer_calls (!x) true st' b' _ _).mono ?_; rintro e w' ⟨rfl, rfl⟩)
              | (go_at_call 15; refine (efmt4 F 2 (nm (!x)) (nm x) _ _ (by exact X10.1.1.answers hF) (by go_simp) (by go_simp) (by go_simp)).mono ?_; rintro e w' ⟨ad, rfl, hb⟩; have D11 : DSt w w' rb kb D := X10.1.below (Below.trans (by repeat (first | exact Below.refl _ _ | apply Below.drew | refine Below.alloc ?_ (by first | omega | (simp <;> omega)) _)) (hb.mono (by first | omega | (simp <;> omega)))); clear hb; have c60 := D11.1.2.2.2.2.1; have c61 := D11.1.2.2.2.2.2.1))
            obtain ⟨hK', hc', hB', hco⟩ := D11.fin (.iface 66 (.pointer (some ad)))
            refine ⟨by simp, .inl ⟨_, _, rfl, run_takeDeferred hK', ?_⟩⟩
            refine ⟨.iface 66 (.pointer (some ad)), by rw [results_cell1 rfl]; go_simp, ?_⟩
            rw [HC.out]
            exact ⟨⟨ad, rfl⟩, hB'⟩
    case stop =>
      rintro D cc pre W hD hpre ⟨⟨rfl, ⟨m, hm, hmf⟩, ad, hc⟩, hB⟩ hK
      subst hA0
      obtain ⟨hc', hB'⟩ := endC hK (by omega) hc hB
      obtain rfl : p = false := by
        have h1 := hpre.subset hm
        simp at h1
        rcases h1 with h1 | h1
        · rw [h1] at hmf
          exact hmf
        · rw [h1] at hmf
          exact hmf
      gi_wp2
      refine ⟨by simp, .inl ⟨_, _, rfl, run_takeDeferred hK, ?_⟩⟩
      refine ⟨.iface 66 (.pointer (some ad)), by rw [results_cell1 rfl]; go_simp, ?_⟩
      exact ⟨⟨ad, rfl⟩, hB'⟩
  · have hne : (p == p') = false := beq_eq_false_iff_ne.2 hpp
    go_wp2_with (go_at_call 15; refine (efmt2 F (pn p) (pn p') _ _ (by exact S2b.answers hF) (by go_simp) (by go_simp)).mono ?_; rintro e w' ⟨ad, rfl, hb⟩; have S4 : CkSt w w' rb kb := S2b.below (Below.trans (by repeat (first | exact Below.refl _ _ | apply Below.drew | refine Below.alloc ?_ (by first | omega | (simp <;> omega)) _)) (hb.mono (by first | omega | (simp <;> omega)))) S2b.2.2.2.2.2.2; clear hb; have c62 := S4.2.2.2.2.1; have c63 := S4.2.2.2.2.2.1)
    have HC : Hid (code2 p p' q ok ok' x x' st st' same = 0) := by
      have : (p && p') = false := by cases p <;> cases p' <;> simp_all
      show code2 p p' q ok ok' x x' st st' same = 0
      simp [code2, this]
    have hc' : (w'.setCell ⟨w.heap.size + 1 + 1, 0, none⟩ (.iface 66 (.pointer (some ad)))).cell? ⟨w.heap.size + 1 + 1, 0, none⟩ = some (.iface 66 (.pointer (some ad))) := World.cell?_setCell_same' _ _ _ (by rw [c62]; rfl)
    refine ⟨.iface 66 (.pointer (some ad)), by rw [results_cell1 rfl]; go_simp, ?_⟩
    rw [HC.out]
    exact ⟨⟨ad, rfl⟩, S4.1.setCell (p := ⟨w.heap.size + 1 + 1, 0, none⟩) (by show w.heap.size ≤ w.heap.size + 1 + 1; omega) _⟩
end Go.Proofs.YbulkcegsFmt
