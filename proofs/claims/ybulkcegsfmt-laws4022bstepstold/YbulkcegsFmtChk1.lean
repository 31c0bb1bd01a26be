import Derived.Test.YbulkcegsFmtChkB
import Derived.Deep.RegionHeld3
import Derived.Deep.DrawnRows
namespace Go.Proofs.YbulkcegsFmt
open Go.RowKit Go.Shelf Go.Extern.Stop Go.Stop Go.Extern
set_option linter.unusedVariables false
attribute [local go_sem] Oper.semAt_some
attribute [local go_sem ↓] Go.wp_at_zero Go.wp_at_succ

set_option maxRecDepth 100000 in
set_option maxHeartbeats 8000000 in
theorem check1 (F : Interp) (pb c rb kb : Nat) (x p : Bool) (st : Int) (b : Nat) (xs : List Int) (ok : Bool) (ks : List Bool) (q : Bool) (hq : q = ks.contains x) (r : Value) (hr : r = .nilIface ∨ ∃ t ra, (t = 66 ∨ t = 40) ∧ r = .iface t (.pointer (some ra))) (w : World) (hr0 : w.cell? ⟨rb, 0, none⟩ = some r) (hr1 : w.cell? ⟨rb, 1, none⟩ = some (.int .i64 0)) (hrf : w.frozen? ⟨rb, 1, none⟩ = false) (hg : ErrT w) (hF : F.answers w.tape) (hpb : pb < w.heap.size) (hm : MsgAt w pb 0 x p st b (xs.length + 64))
    (hxs : xs.length ≤ 140737488351232) (hd : DataAt w b xs ok) (hk : KeysAt w kb ks) :
    Calls Ybaf.prog 9 #[.slice (some ⟨pb, 0, none⟩) 1 c, .iface 43 (.pointer (some ⟨rb, 0, none⟩)), keysV kb] w fun e w' => Ans1 p q ok x r rb e w w' := by
  have HQ : Hid (q = ks.contains x) := hq
  have HR : Hid (r = .nilIface ∨ ∃ t ra, (t = 66 ∨ t = 40) ∧ r = .iface t (.pointer (some ra))) := hr
  clear hq hr
  unfold keysV
  have S0 := CkSt.start w rb kb
  refine (callsIn_wide (n := 6)).1 ?_
  refine callsIn_of_wp_marks Ybaf.func9 rfl trivial ?_ rfl
  simp only [Ybaf.ntmps9, List.size_toArray, List.length_cons, List.length_nil, Nat.reduceAdd, Nat.reduceSub, Array.replicate_succ, Array.replicate_zero, List.push_toArray, List.append_toArray, List.nil_append, List.cons_append]
  refine wpIn_wide.2 ?_
  go_wp2_with (first
    | (go_at_call 14; refine (kind1 pb c x p st b (xs.length + 64) _ (hm.below S0.1 hpb)).mono ?_; rintro e W1 ⟨rfl, hb1⟩; have S1 := S0.below hb1 (by simp); clear hb1 S0)
    | (go_at_call 16; refine (nests1 pb c x p st b (xs.length + 64) _ (hm.below S1.1 hpb)).mono ?_; rintro e W2 ⟨rfl, hb2⟩; have S2 := S1.below hb2 S1.2.2.2.2.2.2; clear hb2 S1)
    | (go_at_call 17; refine (steps_calls _ _ _ _).mono ?_; rintro e W3 ⟨rfl, rfl⟩; have S3 := (S2.alloc (.cells #[.slice (some ⟨pb, 0, none⟩) 1 c] 24)).alloc (.cells #[.int .i64 16] 3)))
  refine abs_act ?_
  intro A0 hA0
  have hs2 := S2.2.2.2.2.2.2
  have hsz : ((W2.alloc (.cells #[.slice (some ⟨pb, 0, none⟩) 1 c] 24)).alloc (.cells #[.int .i64 16] 3)).heap.size = W2.heap.size + 2 := by simp
  have hbp : ((W2.alloc (.cells #[.slice (some ⟨pb, 0, none⟩) 1 c] 24)).alloc (.cells #[.int .i64 16] 3)).cell? ⟨W2.heap.size, 0, none⟩ = some (.slice (some ⟨pb, 0, none⟩) 1 c) := by go_simp
  have hbd : ((W2.alloc (.cells #[.slice (some ⟨pb, 0, none⟩) 1 c] 24)).alloc (.cells #[.int .i64 16] 3)).cell? ⟨W2.heap.size + 1, 0, none⟩ = some (.int .i64 16) := by go_simp
  generalize hW3 : (W2.alloc (.cells #[.slice (some ⟨pb, 0, none⟩) 1 c] 24)).alloc (.cells #[.int .i64 16] 3) = W3 at S3 hsz hbp hbd ⊢
  have hm3 := hm.below S3.1 hpb
  have hk3 := hk.below S3.1
  have hd3 := hd.below S3.1 hd.2.2
  clear S2 hW3 hm hk hd
  refine rf_plain ?_
  refine wpIn_rangeFunc_ownH (F := Fence.wide) (n := 6) rfl (by omega) (gf := 28) (lb := #[.pointer (some ⟨W2.heap.size, 0, none⟩), .pointer (some ⟨W2.heap.size + 1, 0, none⟩)]) (by rw [hA0]; rfl) trivial (enters_of Ybaf.func28 (by kernel_rfl) rfl)
    (steps_stops Fence.wide rfl trivial trivial rfl 5 W3.heap.size W2.heap.size (W2.heap.size + 1) [(x, p, st, b, xs.length + 64)] (by simp) pb c (by omega) W3 (Nat.le_refl _) (by omega) (by omega) (by
      intro k hk
      obtain rfl : k = 0 := by simpa using hk
      exact hm3) hbp hbd) belowK_t (belowK_b (Nat.le_refl _)) (Below.refl _ _) (fun _ => rfl)
    (LpI W3) (LpX w) (LpI.own W3) (LpX.own w W3 (by omega)) ⟨by simp, Below.refl _ _⟩ (LpA W3 A0) (LpA.own W3 A0) ?assign ?body ?done ?stop
  case assign =>
    rintro l pre ⟨x', p', st', b', n'⟩ W K hi hK
    subst hA0
    simp only [Msg.v, msgV]
    gi_wp2
    exact hK _ _ ((KeepsOthers.alloc _ _).from _) ((Below.refl _ W).alloc hi.2.size _) ⟨hi.1, hi.2.alloc hi.2.size _⟩ ⟨W.heap.size, rfl, by go_simp⟩
  case body =>
    rintro l pre ⟨x', p', st', b', n'⟩ a' W hl ⟨r, hr⟩ ⟨hall, hB⟩ ⟨Bx, rfl, hbx⟩ hlt
    have S4 := S3.below hB S3.2.2.2.2.2.2
    have c4 := S4.2.1
    have hnm := Ybaf.mName
    have h11 : 1 ≤ 6 - 1 - 1 := by omega
    have hmx : Ybaf.prog.follows .mixedOrders = true := by kernel_rfl
    rw [hA0]
    have HA : Hid (A0 = _) := hA0
    clear hA0
    simp only [Msg.v, msgV, List.setIfInBounds_toArray, List.set_cons_zero, List.set_cons_succ] at hbx ⊢
    gi_wp2
    refine merge_in { tmps := ((((((A0.tmps.setIfInBounds 58 (Msg.v (x', p', st', b', n'))).setIfInBounds 10 (.pointer (some ⟨Bx, 0, none⟩))).setIfInBounds 59 (.pointer (some ⟨Bx, 1, none⟩))).setIfInBounds 60 (.string (pn p'))).setIfInBounds 61 (.iface 43 (.pointer (some ⟨rb, 0, none⟩)))).setIfInBounds 62 (.string (pn true))).setIfInBounds 63 (.bool (!p')), defers := [] } W.drew ?r ?s
    case r =>
      gi_region_with_o (refine ⟨trivial, ?_⟩; gi_at_call 62; refine (CallsIn.inRound l (callsIn_wide.2 (Name_calls _ _))).mono ?_; rintro e w' ⟨rfl, rfl⟩)
      all_goals (refine ⟨rfl, ?_, rfl⟩; rw [HA.out]; simp only [Msg.v, msgV, List.setIfInBounds_toArray, List.set_cons_zero, List.set_cons_succ])
    rw [HA.out]
    simp only [Msg.v, msgV, List.setIfInBounds_toArray, List.set_cons_zero, List.set_cons_succ]
    clear HA
    cases p'
    · gi_wp2
      gi_region_with_o (first
        | (refine ⟨trivial, ?_⟩; gi_at_call 62; refine (CallsIn.inRound l (callsIn_wide.2 (Name_calls _ _))).mono ?_; rintro e w' ⟨rfl, rfl⟩)
        | (refine ⟨trivial, ?_⟩; gi_at_call 15; refine (CallsIn.inRound l (callsIn_wide.2 (efmt3 F (pn false) (pn true) _ _ (by exact S4.answers hF) (by go_simp) (by go_simp)))).mono ?_; rintro e w' ⟨ad, rfl, hb⟩; have hbb := Below.trans (b := (W.alloc _).drew.drew) ((((Below.refl W.heap.size W).alloc (Nat.le_refl _) _).drew).drew) (hb.mono (by simp)); clear hb; have S6 := S4.below hbb S4.2.2.2.2.2.2; have h61 := S6.2.2.2.2.1; have h62 := S6.2.2.2.2.2.1))
      all_goals gi_wp2
      all_goals exact ⟨((keepsOthers_of_below hbb).trans (KeepsOthers.setCell _ _ _)).from _, ⟨rfl, ⟨_, List.mem_append_right _ (List.mem_singleton.2 rfl), rfl⟩, ad, World.cell?_setCell_same' _ _ _ (by rw [h61]; rfl)⟩, S6.1.setCell (p := ⟨w.heap.size + 1 + 1, 0, none⟩) (by show w.heap.size ≤ w.heap.size + 1 + 1; omega) _⟩
    · gi_wp2
      exact ⟨(KeepsOthers.drew _).from _, (Below.refl _ _).drew, ⟨by simpa using hall, hB.drew⟩⟩
  case done =>
    rintro D ys W hD rfl ⟨hall, hB⟩ hK
    obtain rfl : p = true := hall _ (List.mem_singleton.2 rfl)
    have hdx : W.heap[D]? = some (.deferred (some [])) := hK
    have D7 : DSt w W rb kb D := ⟨S3.below hB S3.2.2.2.2.2.2, hK, by omega⟩
    have hm7 := hm3.below hB (by omega)
    have hk7 := hk3.below hB
    have hd7 := hd3.below hB hd3.2.2
    clear hm3 hk3 hd3 hall hB hK hdx S3 hbp hbd
    subst hA0
    have c50 := D7.1.2.2.1
    cases q
    · go_wp2_with (first
        | (go_at_call 18; refine (node_calls pb 1 c x true st b _ _ (by omega) hm7).mono ?_; rintro e W8 ⟨rfl, hb8⟩; have D8 := D7.below hb8; have hk8 := hk7.below hb8; clear hb8 D7 hk7 c50; have c51 := D8.1.2.2.1)
        | (go_at_call 23; refine (keyOf_no HQ hk8).mono ?_; rintro e W9 ⟨rfl, hb9⟩; have D9 := D8.below hb9; clear hb9 D8 hk8 c51; have D10 := (D9.alloc (.cells #[.string (nm x)] 9)).alloc (.cells #[.slice (some ⟨W9.heap.size, 0, none⟩) 1 1] 42); have c60 := D10.1.2.2.2.2.1; have c61 := D10.1.2.2.2.2.2.1)
        | (go_at_call 19; refine (noKeyFor_calls _ _).mono ?_; rintro e w' ⟨rfl, rfl⟩))
      obtain ⟨hK', hc', hB', hco⟩ := D10.fin (.iface 40 (.pointer (some ⟨W9.heap.size + 1, 0, none⟩)))
      have hs9 := D9.1.2.2.2.2.2.2
      refine ⟨by simp, .inl ⟨_, _, rfl, run_takeDeferred hK', ?_⟩⟩
      refine ⟨.iface 40 (.pointer (some ⟨W9.heap.size + 1, 0, none⟩)), by rw [results_cell1 rfl]; go_simp, ?_⟩
      exact ⟨⟨_, W9.heap.size, rfl, hco _ _ (by show W9.heap.size + 1 ≠ _; omega) (by go_simp), hco _ _ (by show W9.heap.size ≠ _; omega) (by go_simp)⟩, hB'⟩
    · have hsg := Ybaf.mSigner
      have hse := Ybaf.mSealed
      go_wp2_with (first
        | (go_at_call 18; refine (node_calls pb 1 c x true st b _ _ (by omega) hm7).mono ?_; rintro e W8 ⟨rfl, hb8⟩; have D8 := D7.below hb8; have hk8 := hk7.below hb8; have hm8 := hm7.below hb8 (by have := D7.1.1.size; omega); have hd8 := hd7.below hb8 hd7.2.2; clear hb8 D7 hk7 c50 hm7 hd7; have c51 := D8.1.2.2.1)
        | (go_at_call 23; refine (keyOf_yes HQ hk8).mono ?_; rintro e W9 ⟨gk, rfl, hb9⟩; have D9 := D8.below hb9; have hm9 := hm8.below hb9 (by have := D8.1.1.size; omega); have hd9 := hd8.below hb9 hd8.2.2; clear hb9 D8 hk8 c51 hm8 hd8))
      have c9 : W9.cell? ⟨pb, 0, none⟩ = some (.iface 34 (msgV x true st b (xs.length + 64))) := hm9
      unfold msgV at c9
      refine wp_loop_rounds 2 ?_
      rw [rounds_succ]
      go_wp2_with (go_at_call 59; refine (signer_calls x true st b _ _).mono ?_; rintro e w' ⟨rfl, rfl⟩)
      refine abs_world (fun W => DSt w W rb kb D ∧ MsgAt W pb 0 x true st b (xs.length + 64) ∧ DataAt W b xs ok) ⟨D9.alloc _, hm9.below ((Below.refl _ _).alloc (Nat.le_refl _) _) (by have := D9.1.1.size; omega), hd9.below ((Below.refl _ _).alloc (Nat.le_refl _) _) hd9.2.2⟩ ?_
      clear D9 hm9 hd9 c9
      rintro W10 ⟨D10, hm10, hd10⟩
      have c10 := D10.1.2.2.2.1
      have e10 := hd10.2.1
      have t1 : w.heap.size + 1 < W10.heap.size := by have := D10.1.2.2.2.2.2.2; omega
      have t2 : b < W10.heap.size := hd10.2.2
      have hrb := World.block_lt_of_cell? w _ hr0
      simp only at hrb
      have hs10 := D10.1.1.size
      have cr0 := (D10.1.1.cell (p := ⟨rb, 0, none⟩) hrb).trans hr0
      have cr1 := (D10.1.1.cell (p := ⟨rb, 1, none⟩) hrb).trans hr1
      have crf := (D10.1.1.frozen (p := ⟨rb, 1, none⟩) hrb).trans hrf
      have cpm : W10.cell? ⟨pb, 0, none⟩ = some (.iface 34 (msgV x true st b (xs.length + 64))) := hm10
      unfold msgV at cpm
      have t3 : pb < W10.heap.size := by omega
      have t4 : rb < W10.heap.size := by omega
      have t5 : rb < W10.heap.size + 1 := by omega
      have t6 : rb < W10.heap.size + 1 + 1 := by omega
      have c4 := D10.1.2.1
      have c5 := D10.1.2.2.1
      have t7 : w.heap.size < W10.heap.size := by have := D10.1.2.2.2.2.2.2; omega
      have t8 : w.heap.size < W10.heap.size + 1 := by omega
      have t9 : w.heap.size + 1 < W10.heap.size + 1 := by omega
      cases ok
      · simp only [Bool.false_eq_true, if_false] at e10
        go_region_held3 (fun w' => w'.cell? ⟨w.heap.size + 1, 1, none⟩ = some (.func (.func 24) #[] #[]) ∧ w'.cell? ⟨b, xs.length + 63, none⟩ = some (.int .u8 1)) (go_simp)
          (first | (go_at_call 38; refine (sealed_calls x true st b (xs.length + 64) (by omega) _).mono ?_; rintro e w' ⟨rfl, rfl⟩) | (go_at_call 24; refine (verifies_calls gk b (xs.length + 64) 32 (xs.length + 64) 1 _ (by omega) (by omega) (by go_simp)).mono ?_; rintro e w' ⟨rfl, rfl⟩))
        go_wp2_with (go_at_call 15; refine (efmt5 F 1 (nm x) _ _ (by exact D10.1.answers hF) (by go_simp) (by go_simp)).mono ?_; rintro e w' ⟨ad, rfl, hb⟩; have D11 : DSt w w' rb kb D := D10.below (Below.trans (by repeat (first | exact Below.refl _ _ | apply Below.drew | refine Below.alloc ?_ (by first | omega | (simp <;> omega)) _)) (hb.mono (by first | omega | (simp <;> omega)))); clear hb; have c60 := D11.1.2.2.2.2.1; have c61 := D11.1.2.2.2.2.2.1)
        obtain ⟨hK', hc', hB', hco⟩ := D11.fin (.iface 66 (.pointer (some ad)))
        refine ⟨by simp, .inl ⟨_, _, rfl, run_takeDeferred hK', ?_⟩⟩
        refine ⟨.iface 66 (.pointer (some ad)), by rw [results_cell1 rfl]; go_simp, ?_⟩
        exact ⟨⟨ad, rfl⟩, hB'⟩
      · simp only [if_true] at e10
        go_region_held3 (fun w' => w'.cell? ⟨w.heap.size + 1, 1, none⟩ = some (.func (.func 24) #[] #[]) ∧ w'.cell? ⟨b, xs.length + 63, none⟩ = some (.int .u8 0)) (go_simp)
          (first | (go_at_call 38; refine (sealed_calls x true st b (xs.length + 64) (by omega) _).mono ?_; rintro e w' ⟨rfl, rfl⟩) | (go_at_call 24; refine (verifies_calls gk b (xs.length + 64) 32 (xs.length + 64) 0 _ (by omega) (by omega) (by go_simp)).mono ?_; rintro e w' ⟨rfl, rfl⟩))
        have hck := Ybaf.mCheck
        go_wp2_with fail
        rw [rounds_succ]
        go_wp2_with fail
        refine (Check_calls rb 0 r r r x true st b (xs.length + 64) _ _ _ (by go_simp) (by go_simp) (by go_simp) (by rcases HR.out with h | ⟨t, ra, _, h⟩; exact .inl h; exact .inr ⟨t, _, h⟩)).mono ?_
        rintro e W12 ⟨rfl, hb12⟩
        have E12 : ESt w W12 rb D := ESt.of (((D10.alloc _).alloc _).drew) hrb hb12
        have cb0 : W12.cell? ⟨W10.heap.size + 1, 0, none⟩ = some (.string (nm x)) := (hb12.cell (p := ⟨W10.heap.size + 1, 0, none⟩) (by simp)).trans (by go_simp)
        have cb1 : W12.cell? ⟨W10.heap.size + 1, 1, none⟩ = some (.string (pn true)) := (hb12.cell (p := ⟨W10.heap.size + 1, 1, none⟩) (by simp)).trans (by go_simp)
        have cb2 : W12.cell? ⟨W10.heap.size + 1, 2, none⟩ = some (.int .u64 st) := (hb12.cell (p := ⟨W10.heap.size + 1, 2, none⟩) (by simp)).trans (by go_simp)
        have hF12 : F.answers W12.tape := by rw [E12.1.tape]; exact hF
        have hg12 : ErrT W12 := (hg.set rb _).below E12.1 hg.lt
        clear hb12 cr0 cr1 crf cpm c4 c5 t1 t2 t3 t4 t5 t6 t7 t8 t9 c10 e10 hm10 hd10 hck hsg hse hr0 hr1 hrf HQ
        rcases HR.out with rfl | ⟨t, ra, rfl | rfl, rfl⟩
        · go_wp2_with (go_at_call 15; refine (efmt6 F st (nm x) (pn true) _ _ (by exact hF12) (by go_simp) (by go_simp) (by go_simp)).mono ?_; rintro e w' ⟨ad, rfl, hb⟩; have E13 : ESt w w' rb D := E12.below (Below.trans (by repeat (first | exact Below.refl _ _ | apply Below.drew | refine Below.alloc ?_ (by first | omega | (simp <;> omega)) _)) (hb.mono (by first | omega | (simp <;> omega)))); clear hb; have c60 := E13.2.1; have c61 := E13.2.2.1)
          obtain ⟨hK', hc', hB'⟩ := E13.fin (.iface 66 (.pointer (some ad)))
          refine ⟨by simp, .inl ⟨_, _, rfl, run_takeDeferred hK', ?_⟩⟩
          refine ⟨.iface 66 (.pointer (some ad)), by rw [results_cell1 rfl]; go_simp, ?_⟩
          exact ⟨hB', fun _ => ⟨ad, rfl⟩, fun _ h => (by cases h), fun _ h => (by cases h)⟩
        · go_wp2_with (go_at_call 20; refine (fails_plain ra _ hg12).mono ?_; rintro e w' ⟨rfl, hb⟩; have E13 : ESt w w' rb D := E12.below hb; clear hb; have c60 := E13.2.1; have c61 := E13.2.2.1)
          obtain ⟨hK', hc', hB'⟩ := E13.fin .nilIface
          refine ⟨by simp, .inl ⟨_, _, rfl, run_takeDeferred hK', ?_⟩⟩
          refine ⟨.nilIface, by rw [results_cell1 rfl]; go_simp, ?_⟩
          exact ⟨hB', fun h => (by cases h), fun _ _ => rfl, fun _ h => (by cases h)⟩
        · go_wp2_with (go_at_call 20; refine (fails_nokey ra _ hg12).mono ?_; rintro e w' ⟨rfl, hb⟩; have E13 : ESt w w' rb D := E12.below hb; clear hb; have c60 := E13.2.1; have c61 := E13.2.2.1)
          obtain ⟨hK', hc', hB'⟩ := E13.fin (.iface 40 (.pointer (some ra)))
          refine ⟨by simp, .inl ⟨_, _, rfl, run_takeDeferred hK', ?_⟩⟩
          refine ⟨.iface 40 (.pointer (some ra)), by rw [results_cell1 rfl]; go_simp, ?_⟩
          exact ⟨hB', fun h => (by cases h), fun _ h => (by cases h), fun _ _ => rfl⟩
  case stop =>
    rintro D cc pre W hD hpre ⟨⟨rfl, ⟨m, hm, hmf⟩, ad, hc⟩, hB⟩ hK
    subst hA0
    obtain ⟨hc', hB'⟩ := endC hK (by omega) hc hB
    gi_wp2
    refine ⟨by simp, .inl ⟨_, _, rfl, run_takeDeferred hK, ?_⟩⟩
    refine ⟨.iface 66 (.pointer (some ad)), by rw [results_cell1 rfl]; go_simp, ?_⟩
    obtain rfl : p = false := by
      have h1 := hpre.subset hm
      simp at h1
      rw [h1] at hmf
      exact hmf
    exact ⟨⟨ad, rfl⟩, hB'⟩
end Go.Proofs.YbulkcegsFmt
