import Derived.Test.YbulkcegsFmtGd
namespace Go.Proofs.YbulkcegsFmt
open Go.RowKit Go.Shelf Go.Extern.Stop Go.Stop Go.Extern
set_option linter.unusedVariables false
attribute [local go_sem] Oper.semAt_some
attribute [local go_sem ↓] Go.wp_at_zero Go.wp_at_succ

def AQ (md : Nat → ZM) : Nat → Bool
  | 0 => true
  | j + 1 => AQ md j && (md j).p
theorem AQ_all {md : Nat → ZM} : ∀ {n : Nat}, (∀ i, i < n → (md i).p = true) → AQ md n = true
  | 0, _ => rfl
  | n + 1, h => by simp [AQ, AQ_all (n := n) (fun i hi => h i (by omega)), h n (by omega)]
theorem AQ_one {md : Nat → ZM} : ∀ {n i : Nat}, i < n → (md i).p = false → AQ md n = false
  | n + 1, i, hi, h => by
    rcases Nat.lt_or_ge i n with hn | hn
    · simp [AQ, AQ_one hn h]
    · obtain rfl : i = n := by omega
      simp [AQ, h]

/-- The mistakes as the iterator hands them on. -/
def msL (md : Nat → ZM) (bf : Nat → Nat) (n : Nat) : List Msg := (List.range n).map fun i => ((md i).x, (md i).p, (md i).st, bf i, (md i).xs.length + 64)
theorem msL_len (md : Nat → ZM) (bf : Nat → Nat) (n : Nat) : (msL md bf n).length = n := by simp [msL]
theorem msL_get (md : Nat → ZM) (bf : Nat → Nat) {n k : Nat} (h : k < n) : (msL md bf n).getD k Msg.z = ((md k).x, (md k).p, (md k).st, bf k, (md k).xs.length + 64) := by
  simp [msL, List.getD, List.getElem?_map, List.getElem?_range h]
theorem GDat.mis {w : World} {mb n : Nat} {md : Nat → ZM} {bf : Nat → Nat} (h : GDat w mb n md bf) : MisAt w mb (msL md bf n) := by
  intro k hk
  rw [msL_len] at hk
  rw [msL_get md bf hk]
  exact (h.2 k hk).1
theorem msL_all {md : Nat → ZM} {bf : Nat → Nat} {n : Nat} (h : ∀ m, m ∈ msL md bf n → m.2.1 = true) : AQ md n = true :=
  AQ_all fun i hi => h _ (List.mem_map.2 ⟨i, List.mem_range.2 hi, rfl⟩)
theorem msL_one {md : Nat → ZM} {bf : Nat → Nat} {n : Nat} {m : Msg} (hm : m ∈ msL md bf n) (h : m.2.1 = false) : AQ md n = false := by
  obtain ⟨i, hi, rfl⟩ := List.mem_map.1 hm
  exact AQ_one (List.mem_range.1 hi) h

def AnsG (ap q gok af : Bool) (fm : Option Bool) (gx : Bool) (e : Ending) (w w' : World) : Prop := match ap, q, gok with
  | false, _, _ => IsPlain e w w'
  | true, false, _ => IsNoKey gx e w w'
  | true, true, false => IsPlain e w w'
  | true, true, true => CF af fm e w w'

theorem forwards_q {md : Nat → ZM} {ks : List Bool} {n : Nat} {af : Bool} {fm : Option Bool} (ha : Hid (AF md ks n = af)) (hf : Hid (FM md ks n = fm)) (F : Interp) (gx : Bool) (mb rb kb : Nat) (bf : Nat → Nat) (hn : n ≤ 1024) (w : World) (hF : F.answers w.tape) (hg : ErrT w) (hk : KeysAt w kb ks) (hd : GDat w mb n md bf) :
    Calls Ybaf.prog 22 #[gosI gx mb n, .iface 43 (.pointer (some ⟨rb, 0, none⟩)), keysV kb] w fun e w' => CF af fm e w w' := by
  have h := forwards F gx mb n rb kb ks md bf hn w hF hg hk hd
  rw [ha.out, hf.out] at h
  exact h

/-- What the walk behind check's loop is handed. -/
def GX (w : World) (rb kb D pb mb n db : Nat) (gx gok : Bool) (ks : List Bool) (md : Nat → ZM) (bf : Nat → Nat) (W : World) : Prop := DSt w W rb kb D ∧ GosAt W pb gx mb n db ∧ DataAt W db [] gok ∧ KeysAt W kb ks ∧ GDat W mb n md bf ∧ ErrT W
theorem GX.below {w : World} {rb kb D pb mb n db : Nat} {gx gok : Bool} {ks : List Bool} {md : Nat → ZM} {bf : Nat → Nat} {W W' : World} (h : GX w rb kb D pb mb n db gx gok ks md bf W) (hpb : pb < w.heap.size) (hb : Below W.heap.size W W') : GX w rb kb D pb mb n db gx gok ks md bf W' := by
  obtain ⟨h1, h2, h3, h4, h5, h6⟩ := h
  have hs := h1.1.1.size
  exact ⟨h1.below hb, h2.below hb (by omega), h3.below hb h3.2.2, h4.below hb, h5.below hb, h6.below hb h6.lt⟩

@[go_sem] theorem Ybaf.field64 (v0 v1 v2 v3 v4 v5 : Value) (w : World) : (Instr.field 64 (.agg #[v0, v1, v2, v3, v4, v5]) 0).run Ybaf.prog w = .ok (.agg #[v0, v1, v2, v3, v4]) w := by kernel_rfl

set_option maxRecDepth 100000 in
set_option maxHeartbeats 8000000 in
theorem checkG (F : Interp) (pb c rb kb mb n db : Nat) (gx gok : Bool) (ks : List Bool) (q : Bool) (hq : q = ks.contains gx) (md : Nat → ZM) (bf : Nat → Nat) (hn : n ≤ 1024) (w : World) (hg : ErrT w) (hF : F.answers w.tape) (hpb : pb < w.heap.size) (hgo : GosAt w pb gx mb n db) (hdb : DataAt w db [] gok) (hk : KeysAt w kb ks) (hd : GDat w mb n md bf) :
    Calls Ybaf.prog 9 #[.slice (some ⟨pb, 0, none⟩) 1 c, .iface 43 (.pointer (some ⟨rb, 0, none⟩)), keysV kb] w fun e w' => AnsG (AQ md n) q gok (AF md ks n) (FM md ks n) gx e w w' := by
  have HQ : Hid (q = ks.contains gx) := hq
  clear hq
  obtain ⟨af, haf⟩ : ∃ a, AF md ks n = a := ⟨_, rfl⟩
  obtain ⟨fm, hfm⟩ : ∃ a, FM md ks n = a := ⟨_, rfl⟩
  obtain ⟨ap, hap⟩ : ∃ a, AQ md n = a := ⟨_, rfl⟩
  rw [haf, hfm, hap]
  have HAP : Hid (AQ md n = ap) := hap
  have HAF : Hid (AF md ks n = af) := haf
  have HFM : Hid (FM md ks n = fm) := hfm
  clear haf hfm hap
  unfold keysV
  have S0 := CkSt.start w rb kb
  refine (callsIn_wide (n := 6)).1 ?_
  refine callsIn_of_wp_marks Ybaf.func9 rfl trivial ?_ rfl
  simp only [Ybaf.ntmps9, List.size_toArray, List.length_cons, List.length_nil, Nat.reduceAdd, Nat.reduceSub, Array.replicate_succ, Array.replicate_zero, List.push_toArray, List.append_toArray, List.nil_append, List.cons_append]
  refine wpIn_wide.2 ?_
  go_wp2_with (first
    | (go_at_call 14; refine (kind3 pb c gx mb n db _ (hgo.below S0.1 hpb)).mono ?_; rintro e W1 ⟨rfl, hb1⟩; have S1 := S0.below hb1 (by simp); clear hb1 S0)
    | (go_at_call 16; refine (nestsG pb c gx mb n db _ (hgo.below S1.1 hpb)).mono ?_; rintro e W2 ⟨rfl, hb2⟩; have S2 := S1.below hb2 S1.2.2.2.2.2.2; clear hb2 S1)
    | (go_at_call 17; refine (steps_calls _ _ _ _).mono ?_; rintro e W3 ⟨rfl, rfl⟩; have S3 := (S2.alloc (.cells #[.slice (some ⟨pb, 0, none⟩) 1 c] 24)).alloc (.cells #[.int .i64 16] 3)))
  refine abs_act ?_
  intro A0 hA0
  have hs2 := S2.2.2.2.2.2.2
  have hsz : ((W2.alloc (.cells #[.slice (some ⟨pb, 0, none⟩) 1 c] 24)).alloc (.cells #[.int .i64 16] 3)).heap.size = W2.heap.size + 2 := by simp
  have hbp : ((W2.alloc (.cells #[.slice (some ⟨pb, 0, none⟩) 1 c] 24)).alloc (.cells #[.int .i64 16] 3)).cell? ⟨W2.heap.size, 0, none⟩ = some (.slice (some ⟨pb, 0, none⟩) 1 c) := by go_simp
  have hbd : ((W2.alloc (.cells #[.slice (some ⟨pb, 0, none⟩) 1 c] 24)).alloc (.cells #[.int .i64 16] 3)).cell? ⟨W2.heap.size + 1, 0, none⟩ = some (.int .i64 16) := by go_simp
  generalize hW3 : (W2.alloc (.cells #[.slice (some ⟨pb, 0, none⟩) 1 c] 24)).alloc (.cells #[.int .i64 16] 3) = W3 at S3 hsz hbp hbd ⊢
  have hgo3 := hgo.below S3.1 hpb
  have hdb3 := hdb.below S3.1 hdb.2.2
  have hk3 := hk.below S3.1
  have hd3 := hd.below S3.1
  have hg3 := hg.below S3.1 hg.lt
  clear S2 hW3 hgo hdb hk hd
  refine rf_plain ?_
  refine wpIn_rangeFunc_ownH (F := Fence.wide) (n := 6) rfl (by omega) (gf := 28) (lb := #[.pointer (some ⟨W2.heap.size, 0, none⟩), .pointer (some ⟨W2.heap.size + 1, 0, none⟩)]) (by rw [hA0]; rfl) trivial (enters_of Ybaf.func28 (by kernel_rfl) rfl)
    (stepsG_stops Fence.wide rfl trivial trivial rfl 5 W2.heap.size (W2.heap.size + 1) (msL md bf n) (by rw [msL_len]; omega) pb c mb db gx W3 (by omega) hd3.1 (by omega) (by omega) (by rw [msL_len]; exact hgo3) hd3.mis hbp hbd) KpC.trans (KpC.put _) (Below.refl _ _) (fun _ => rfl)
    (LpI W3) (LpX w) (LpI.own W3) (LpX.own w W3 (by omega)) ⟨by simp, Below.refl _ _⟩ (LpA W3 A0) (LpA.own W3 A0) ?assign ?body ?done ?stop
  case assign =>
    rintro l pre ⟨x', p', st', b', n'⟩ W K hi hK
    subst hA0
    simp only [Msg.v, msgV]
    gi_wp2
    exact hK _ _ ((KeepsOthers.alloc _ _).from _) (KpC.of_below ((Below.refl _ W).alloc (Nat.le_refl _) _)) ⟨hi.1, hi.2.alloc hi.2.size _⟩ ⟨W.heap.size, rfl, by go_simp⟩
  case body =>
    rintro l pre ⟨x', p', st', b', n'⟩ a' W hl ⟨r, hr⟩ ⟨hall, hB⟩ ⟨Bx, rfl, hbx⟩ hlt
    have S4 := S3.below hB S3.2.2.2.2.2.2
    have c4 := S4.2.1
    have hnm := Ybaf.mName
    have h11 : 1 ≤ 6 - 1 - 1 := by omega
    have hmx : Ybaf.prog.follows .mixedOrders = true := by kernel_rfl
    rw [hA0]
    have HA : Hid (A0 = _) := hA0
    clear hA0
    simp only [Msg.v, msgV, List.setIfInBounds_toArray, List.set_cons_zero, List.set_cons_succ] at hbx ⊢
    gi_wp2
    refine merge_in { tmps := ((((((A0.tmps.setIfInBounds 58 (Msg.v (x', p', st', b', n'))).setIfInBounds 10 (.pointer (some ⟨Bx, 0, none⟩))).setIfInBounds 59 (.pointer (some ⟨Bx, 1, none⟩))).setIfInBounds 60 (.string (pn p'))).setIfInBounds 61 (.iface 43 (.pointer (some ⟨rb, 0, none⟩)))).setIfInBounds 62 (.string (pn true))).setIfInBounds 63 (.bool (!p')), defers := [] } W.drew ?r ?s
    case r =>
      gi_region_with_o (refine ⟨trivial, ?_⟩; gi_at_call 62; refine (CallsIn.inRound l (callsIn_wide.2 (Name_calls _ _))).mono ?_; rintro e w' ⟨rfl, rfl⟩)
      all_goals (refine ⟨rfl, ?_, rfl⟩; rw [HA.out]; simp only [Msg.v, msgV, List.setIfInBounds_toArray, List.set_cons_zero, List.set_cons_succ])
    rw [HA.out]
    simp only [Msg.v, msgV, List.setIfInBounds_toArray, List.set_cons_zero, List.set_cons_succ]
    clear HA
    cases p'
    · gi_wp2
      gi_region_with_o (first
        | (refine ⟨trivial, ?_⟩; gi_at_call 62; refine (CallsIn.inRound l (callsIn_wide.2 (Name_calls _ _))).mono ?_; rintro e w' ⟨rfl, rfl⟩)
        | (refine ⟨trivial, ?_⟩; gi_at_call 15; refine (CallsIn.inRound l (callsIn_wide.2 (efmt3 F (pn false) (pn true) _ _ (by exact S4.answers hF) (by go_simp) (by go_simp)))).mono ?_; rintro e w' ⟨ad, rfl, hb⟩; have hbb := Below.trans (b := (W.alloc _).drew.drew) ((((Below.refl W.heap.size W).alloc (Nat.le_refl _) _).drew).drew) (hb.mono (by simp)); clear hb; have S6 := S4.below hbb S4.2.2.2.2.2.2; have h61 := S6.2.2.2.2.1; have h62 := S6.2.2.2.2.2.1))
      all_goals gi_wp2
      all_goals exact ⟨((keepsOthers_of_below hbb).trans (KeepsOthers.setCell _ _ _)).from _, ⟨rfl, ⟨_, List.mem_append_right _ (List.mem_singleton.2 rfl), rfl⟩, ad, World.cell?_setCell_same' _ _ _ (by rw [h61]; rfl)⟩, S6.1.setCell (p := ⟨w.heap.size + 1 + 1, 0, none⟩) (by show w.heap.size ≤ w.heap.size + 1 + 1; omega) _⟩
    · gi_wp2
      exact ⟨(KeepsOthers.drew _).from _, KpC.of_below (Below.refl _ _).drew, ⟨by simpa using hall, hB.drew⟩⟩
  case done =>
    rintro D ys W hD rfl ⟨hall, hB⟩ hK
    obtain rfl : ap = true := HAP.out.symm.trans (msL_all hall)
    have D7 : DSt w W rb kb D := ⟨S3.below hB S3.2.2.2.2.2.2, hK, by omega⟩
    have X7 : GX w rb kb D pb mb n db gx gok ks md bf W := ⟨D7, hgo3.below hB (by omega), hdb3.below hB hdb3.2.2, hk3.below hB, hd3.below hB, hg3.below hB hg3.lt⟩
    clear hgo3 hdb3 hk3 hd3 hg3 hall hB hK S3 hbp hbd
    subst hA0
    have c50 := D7.1.2.2.1
    cases q
    · go_wp2_with (first
        | (go_at_call 18; refine (node_G pb c gx mb n db _ X7.2.1).mono ?_; rintro e W8 ⟨rfl, hb8⟩; have X8 := X7.below hpb hb8; clear hb8 D7 X7 c50; have c51 := X8.1.1.2.2.1)
        | (go_at_call 23; refine (keyOf_no HQ X8.2.2.2.1).mono ?_; rintro e W9 ⟨rfl, hb9⟩; have X9 := X8.below hpb hb9; clear hb9 X8 c51; have D10 := (X9.1.alloc (.cells #[.string (nm gx)] 9)).alloc (.cells #[.slice (some ⟨W9.heap.size, 0, none⟩) 1 1] 42); have c60 := D10.1.2.2.2.2.1; have c61 := D10.1.2.2.2.2.2.1)
        | (go_at_call 19; refine (noKeyFor_calls _ _).mono ?_; rintro e w' ⟨rfl, rfl⟩))
      obtain ⟨hK', hc', hB', hco⟩ := D10.fin (.iface 40 (.pointer (some ⟨W9.heap.size + 1, 0, none⟩)))
      have hs9 := X9.1.1.2.2.2.2.2.2
      refine ⟨by simp, .inl ⟨_, _, rfl, run_takeDeferred hK', ?_⟩⟩
      refine ⟨.iface 40 (.pointer (some ⟨W9.heap.size + 1, 0, none⟩)), by rw [results_cell1 rfl]; go_simp, ?_⟩
      exact ⟨⟨_, W9.heap.size, rfl, hco _ _ (by show W9.heap.size + 1 ≠ _; omega) (by go_simp), hco _ _ (by show W9.heap.size ≠ _; omega) (by go_simp)⟩, hB'⟩
    · have hsg := Ybaf.mSignerG
      have hse := Ybaf.mSealedG
      go_wp2_with (first
        | (go_at_call 18; refine (node_G pb c gx mb n db _ X7.2.1).mono ?_; rintro e W8 ⟨rfl, hb8⟩; have X8 := X7.below hpb hb8; clear hb8 D7 X7 c50; have c51 := X8.1.1.2.2.1)
        | (go_at_call 23; refine (keyOf_yes HQ X8.2.2.2.1).mono ?_; rintro e W9 ⟨gk, rfl, hb9⟩; have X9 := X8.below hpb hb9; clear hb9 X8 c51))
      have c9 : W9.cell? ⟨pb, 0, none⟩ = some (.iface 64 (gosV gx mb n db)) := X9.2.1
      unfold gosV at c9
      refine wp_loop_rounds 2 ?_
      rw [rounds_succ]
      go_wp2_with (go_at_call 65; refine (signerG_calls gx mb n db _).mono ?_; rintro e w' ⟨rfl, rfl⟩)
      refine abs_world (GX w rb kb D pb mb n db gx gok ks md bf) (X9.below hpb ((Below.refl _ _).alloc (Nat.le_refl _) _)) ?_
      clear X9 c9
      rintro W10 X10
      have c10 := X10.1.1.2.2.2.1
      have e10 := X10.2.2.1.2.1
      have hs10 := X10.1.1.1.size
      have t1 : w.heap.size + 1 < W10.heap.size := by have := X10.1.1.2.2.2.2.2.2; omega
      have t2 : db < W10.heap.size := X10.2.2.1.2.2
      simp only [List.length_nil, Nat.zero_add] at e10
      cases gok
      · simp only [Bool.false_eq_true, if_false] at e10
        go_region_held3 (fun w' => w'.cell? ⟨w.heap.size + 1, 1, none⟩ = some (.func (.func 24) #[] #[]) ∧ w'.cell? ⟨db, 63, none⟩ = some (.int .u8 1)) (go_simp)
          (first | (go_at_call 64; refine (sealedG_calls gx mb n db _).mono ?_; rintro e w' ⟨rfl, rfl⟩) | (go_at_call 24; refine (verifies_calls gk db 64 32 64 1 _ (by omega) (by omega) (by go_simp)).mono ?_; rintro e w' ⟨rfl, rfl⟩))
        go_wp2_with (go_at_call 15; refine (efmt5 F 1 (nm gx) _ _ (by exact X10.1.1.answers hF) (by go_simp) (by go_simp)).mono ?_; rintro e w' ⟨ad, rfl, hb⟩; have D11 : DSt w w' rb kb D := X10.1.below (Below.trans (by repeat (first | exact Below.refl _ _ | apply Below.drew | refine Below.alloc ?_ (by first | omega | (simp <;> omega)) _)) (hb.mono (by first | omega | (simp <;> omega)))); clear hb; have c60 := D11.1.2.2.2.2.1; have c61 := D11.1.2.2.2.2.2.1)
        obtain ⟨hK', hc', hB', hco⟩ := D11.fin (.iface 66 (.pointer (some ad)))
        refine ⟨by simp, .inl ⟨_, _, rfl, run_takeDeferred hK', ?_⟩⟩
        refine ⟨.iface 66 (.pointer (some ad)), by rw [results_cell1 rfl]; go_simp, ?_⟩
        exact ⟨⟨ad, rfl⟩, hB'⟩
      · simp only [if_true] at e10
        go_region_held3 (fun w' => w'.cell? ⟨w.heap.size + 1, 1, none⟩ = some (.func (.func 24) #[] #[]) ∧ w'.cell? ⟨db, 63, none⟩ = some (.int .u8 0)) (go_simp)
          (first | (go_at_call 64; refine (sealedG_calls gx mb n db _).mono ?_; rintro e w' ⟨rfl, rfl⟩) | (go_at_call 24; refine (verifies_calls gk db 64 32 64 0 _ (by omega) (by omega) (by go_simp)).mono ?_; rintro e w' ⟨rfl, rfl⟩))
        go_wp2_with fail
        rw [rounds_succ]
        go_wp2_with fail
        refine abs_world (GX w rb kb D pb mb n db gx true ks md bf) (X10.below hpb (by repeat (first | exact Below.refl _ _ | apply Below.drew | refine Below.alloc ?_ (by first | omega | (simp <;> omega)) _))) ?_
        clear X10 c10 e10 hs10 t1 t2
        rintro W11 X11
        have g0 : W11.cell? ⟨pb, 0, none⟩ = some (.iface 64 (.agg #[.string (nm gx), .int .u64 0, .slice none 0 0, .slice (some ⟨mb, 0, none⟩) n n, .slice none 0 0, .slice (some ⟨db, 0, none⟩) 64 64])) := X11.2.1
        have g1 := X11.1.1.2.1
        have g2 := X11.1.1.2.2.1
        have g3 := X11.1.1.2.2.2.1
        cases af
        · cases fm
          · go_region_held3 (fun w' => w'.cell? ⟨pb, 0, none⟩ = some (.iface 64 (.agg #[.string (nm gx), .int .u64 0, .slice none 0 0, .slice (some ⟨mb, 0, none⟩) n n, .slice none 0 0, .slice (some ⟨db, 0, none⟩) 64 64])) ∧ w'.cell? ⟨w.heap.size, 0, none⟩ = some (.iface 43 (.pointer (some ⟨rb, 0, none⟩))) ∧ w'.cell? ⟨w.heap.size + 1, 0, none⟩ = some (.func (.func 23) #[] #[.pointer (some ⟨kb, 0, none⟩)]) ∧ w'.cell? ⟨w.heap.size + 1, 1, none⟩ = some (.func (.func 24) #[] #[])) (go_simp)
              (first | (go_at_call 22; refine (forwards_q HAF HFM F gx mb rb kb bf hn _ (by exact X11.1.1.answers hF) (by exact X11.2.2.2.2.2) (by exact (X11.below hpb (by repeat (first | exact Below.refl _ _ | apply Below.drew))).2.2.2.1) (by exact (X11.below hpb (by repeat (first | exact Below.refl _ _ | apply Below.drew))).2.2.2.2.1)).mono ?_; rintro e w' ⟨⟨ad, rfl⟩, hb⟩; have X12 : GX w rb kb D pb mb n db gx true ks md bf w' := X11.below hpb (Below.trans (by repeat (first | exact Below.refl _ _ | apply Below.drew)) (hb.mono (by first | omega | (simp <;> omega)))); clear hb; have q0 : w'.cell? ⟨pb, 0, none⟩ = some (.iface 64 (.agg #[.string (nm gx), .int .u64 0, .slice none 0 0, .slice (some ⟨mb, 0, none⟩) n n, .slice none 0 0, .slice (some ⟨db, 0, none⟩) 64 64])) := X12.2.1; have q1 := X12.1.1.2.1; have q2 := X12.1.1.2.2.1; have q3 := X12.1.1.2.2.2.1; have q4 := X12.1.1.2.2.2.2.1; have q5 := X12.1.1.2.2.2.2.2.1))
            all_goals go_wp2_with fail
            all_goals
              obtain ⟨hK', hc', hB', hco⟩ := X12.1.fin (.iface 66 (.pointer (some ad)))
              refine ⟨by simp, .inl ⟨_, _, rfl, run_takeDeferred hK', ?_⟩⟩
              refine ⟨.iface 66 (.pointer (some ad)), by rw [results_cell1 rfl]; go_simp, ?_⟩
              exact ⟨⟨ad, rfl⟩, hB'⟩
          · go_region_held3 (fun w' => w'.cell? ⟨pb, 0, none⟩ = some (.iface 64 (.agg #[.string (nm gx), .int .u64 0, .slice none 0 0, .slice (some ⟨mb, 0, none⟩) n n, .slice none 0 0, .slice (some ⟨db, 0, none⟩) 64 64])) ∧ w'.cell? ⟨w.heap.size, 0, none⟩ = some (.iface 43 (.pointer (some ⟨rb, 0, none⟩))) ∧ w'.cell? ⟨w.heap.size + 1, 0, none⟩ = some (.func (.func 23) #[] #[.pointer (some ⟨kb, 0, none⟩)]) ∧ w'.cell? ⟨w.heap.size + 1, 1, none⟩ = some (.func (.func 24) #[] #[])) (go_simp)
              (first | (go_at_call 22; refine (forwards_q HAF HFM F gx mb rb kb bf hn _ (by exact X11.1.1.answers hF) (by exact X11.2.2.2.2.2) (by exact (X11.below hpb (by repeat (first | exact Below.refl _ _ | apply Below.drew))).2.2.2.1) (by exact (X11.below hpb (by repeat (first | exact Below.refl _ _ | apply Below.drew))).2.2.2.2.1)).mono ?_; rintro e w' ⟨⟨g, h, rfl, gc, hgc⟩, hb⟩; have X12 : GX w rb kb D pb mb n db gx true ks md bf w' := X11.below hpb (Below.trans (by repeat (first | exact Below.refl _ _ | apply Below.drew)) (hb.mono (by first | omega | (simp <;> omega)))); clear hb; have q0 : w'.cell? ⟨pb, 0, none⟩ = some (.iface 64 (.agg #[.string (nm gx), .int .u64 0, .slice none 0 0, .slice (some ⟨mb, 0, none⟩) n n, .slice none 0 0, .slice (some ⟨db, 0, none⟩) 64 64])) := X12.2.1; have q1 := X12.1.1.2.1; have q2 := X12.1.1.2.2.1; have q3 := X12.1.1.2.2.2.1; have q4 := X12.1.1.2.2.2.2.1; have q5 := X12.1.1.2.2.2.2.2.1))
            all_goals go_wp2_with fail
            all_goals
              obtain ⟨hK', hc', hB', hco⟩ := X12.1.fin (.iface 40 (.pointer (some ⟨g, 0, none⟩)))
              refine ⟨by simp, .inl ⟨_, _, rfl, run_takeDeferred hK', ?_⟩⟩
              refine ⟨.iface 40 (.pointer (some ⟨g, 0, none⟩)), by rw [results_cell1 rfl]; go_simp, ?_⟩
              exact ⟨⟨g, h, rfl, hco _ _ (fun e => by simp only at e; rw [e, q4] at gc; cases gc) gc, hco _ _ (fun e => by simp only at e; rw [e, q4] at hgc; cases hgc) hgc⟩, hB'⟩
        · go_region_held3 (fun w' => w'.cell? ⟨pb, 0, none⟩ = some (.iface 64 (.agg #[.string (nm gx), .int .u64 0, .slice none 0 0, .slice (some ⟨mb, 0, none⟩) n n, .slice none 0 0, .slice (some ⟨db, 0, none⟩) 64 64])) ∧ w'.cell? ⟨w.heap.size, 0, none⟩ = some (.iface 43 (.pointer (some ⟨rb, 0, none⟩))) ∧ w'.cell? ⟨w.heap.size + 1, 0, none⟩ = some (.func (.func 23) #[] #[.pointer (some ⟨kb, 0, none⟩)]) ∧ w'.cell? ⟨w.heap.size + 1, 1, none⟩ = some (.func (.func 24) #[] #[])) (go_simp)
            (first | (go_at_call 22; refine (forwards_q HAF HFM F gx mb rb kb bf hn _ (by exact X11.1.1.answers hF) (by exact X11.2.2.2.2.2) (by exact (X11.below hpb (by repeat (first | exact Below.refl _ _ | apply Below.drew))).2.2.2.1) (by exact (X11.below hpb (by repeat (first | exact Below.refl _ _ | apply Below.drew))).2.2.2.2.1)).mono ?_; rintro e w' ⟨rfl, hb⟩; have X12 : GX w rb kb D pb mb n db gx true ks md bf w' := X11.below hpb (Below.trans (by repeat (first | exact Below.refl _ _ | apply Below.drew)) (hb.mono (by first | omega | (simp <;> omega)))); clear hb; have q0 : w'.cell? ⟨pb, 0, none⟩ = some (.iface 64 (.agg #[.string (nm gx), .int .u64 0, .slice none 0 0, .slice (some ⟨mb, 0, none⟩) n n, .slice none 0 0, .slice (some ⟨db, 0, none⟩) 64 64])) := X12.2.1; have q1 := X12.1.1.2.1; have q2 := X12.1.1.2.2.1; have q3 := X12.1.1.2.2.2.1; have q4 := X12.1.1.2.2.2.2.1; have q5 := X12.1.1.2.2.2.2.2.1))
          all_goals go_wp2_with fail
          all_goals
            obtain ⟨hK', hc', hB', hco⟩ := X12.1.fin (.nilIface)
            refine ⟨by simp, .inl ⟨_, _, rfl, run_takeDeferred hK', ?_⟩⟩
            refine ⟨.nilIface, by rw [results_cell1 rfl]; go_simp, ?_⟩
            exact ⟨rfl, hB'⟩
  case stop =>
    rintro D cc pre W hD hpre ⟨⟨rfl, ⟨m, hm, hmf⟩, ad, hc⟩, hB⟩ hK
    obtain rfl : ap = false := HAP.out.symm.trans (msL_one (hpre.subset hm) hmf)
    subst hA0
    obtain ⟨hc', hB'⟩ := endC hK (by omega) hc hB
    gi_wp2
    refine ⟨by simp, .inl ⟨_, _, rfl, run_takeDeferred hK, ?_⟩⟩
    refine ⟨.iface 66 (.pointer (some ad)), by rw [results_cell1 rfl]; go_simp, ?_⟩
    exact ⟨⟨ad, rfl⟩, hB'⟩
end Go.Proofs.YbulkcegsFmt
