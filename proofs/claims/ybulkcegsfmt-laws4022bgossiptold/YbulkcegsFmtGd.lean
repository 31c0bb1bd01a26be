import Derived.Test.YbulkcegsFmtGc
namespace Go.Proofs.YbulkcegsFmt
open Go.RowKit Go.Shelf Go.Extern.Stop Go.Stop Go.Extern
set_option linter.unusedVariables false
attribute [local go_sem] Oper.semAt_some
attribute [local go_sem ↓] Go.wp_at_zero Go.wp_at_succ

/-- The first node, among the first j mistakes', that has no key; whether one of them is forged. -/
def FM (md : Nat → ZM) (ks : List Bool) : Nat → Option Bool
  | 0 => none
  | j + 1 => match FM md ks j with
    | some x => some x
    | none => if ks.contains (md j).x then none else some (md j).x
def AF (md : Nat → ZM) (ks : List Bool) : Nat → Bool
  | 0 => false
  | j + 1 => AF md ks j || (ks.contains (md j).x && !(md j).ok)
theorem AF_no {md : Nat → ZM} {ks : List Bool} {j : Nat} (h : AF md ks j = false) (hq : false = ks.contains (md j).x) : AF md ks (j + 1) = false := by
  simp only [AF]
  rw [h, ← hq]
  rfl
theorem AF_ok {md : Nat → ZM} {ks : List Bool} {j : Nat} (h : AF md ks j = false) (hok : (md j).ok = true) : AF md ks (j + 1) = false := by
  simp only [AF]
  rw [h, hok]
  cases ks.contains (md j).x <;> rfl
theorem AF_bad {md : Nat → ZM} {ks : List Bool} {j : Nat} (hq : true = ks.contains (md j).x) (hok : (md j).ok = false) : AF md ks (j + 1) = true := by
  simp only [AF]
  rw [← hq, hok]
  cases AF md ks j <;> rfl
theorem FM_new {md : Nat → ZM} {ks : List Bool} {j : Nat} (h : FM md ks j = none) (hq : false = ks.contains (md j).x) : FM md ks (j + 1) = some (md j).x := by
  simp only [FM, h]
  rw [← hq]
  rfl
theorem FM_old {md : Nat → ZM} {ks : List Bool} {j : Nat} {y : Bool} (h : FM md ks j = some y) : FM md ks (j + 1) = some y := by
  simp only [FM, h]
theorem FM_same {md : Nat → ZM} {ks : List Bool} {j : Nat} (hq : true = ks.contains (md j).x) : FM md ks (j + 1) = FM md ks j := by
  simp only [FM]
  rw [← hq]
  cases FM md ks j <;> rfl
theorem AF_mono {md : Nat → ZM} {ks : List Bool} {j n : Nat} (h : AF md ks j = true) (hj : j ≤ n) : AF md ks n = true := by
  induction n with
  | zero =>
    obtain rfl : j = 0 := by omega
    exact h
  | succ n ih =>
    rcases Nat.lt_or_ge n j with hn | hn
    · obtain rfl : j = n + 1 := by omega
      exact h
    · simp [AF, ih hn]

/-- The gossip's mistakes and their bytes. -/
def GDat (w : World) (mb n : Nat) (md : Nat → ZM) (bf : Nat → Nat) : Prop := mb < w.heap.size ∧ ∀ i, i < n → MiAt w mb i (md i).x (md i).p (md i).st (bf i) ((md i).xs.length + 64) ∧ DataAt w (bf i) (md i).xs (md i).ok ∧ (md i).xs.length ≤ 140737488351232
theorem GDat.below {w w' : World} {mb n : Nat} {md : Nat → ZM} {bf : Nat → Nat} (h : GDat w mb n md bf) (hb : Below w.heap.size w w') : GDat w' mb n md bf :=
  ⟨Nat.lt_of_lt_of_le h.1 hb.size, fun i hi => ⟨(h.2 i hi).1.below hb h.1, (h.2 i hi).2.1.below hb (h.2 i hi).2.1.2.2, (h.2 i hi).2.2⟩⟩

/-- What the box for the first missing key holds. -/
def NK (W : World) (nb : Nat) : Option Bool → Prop
  | none => W.cell? ⟨nb, 0, none⟩ = some .nilIface
  | some x => ∃ g h, W.cell? ⟨nb, 0, none⟩ = some (.iface 40 (.pointer (some ⟨g, 0, none⟩))) ∧ W.cell? ⟨g, 0, none⟩ = some (.slice (some ⟨h, 0, none⟩) 1 1) ∧ W.cell? ⟨h, 0, none⟩ = some (.string (nm x))
structure FSt (w W : World) (kb : Nat) (o : Option Bool) : Prop where
  below : Below w.heap.size w W
  k0 : W.cell? ⟨w.heap.size + 1, 0, none⟩ = some (.func (.func 23) #[] #[.pointer (some ⟨kb, 0, none⟩)])
  k1 : W.cell? ⟨w.heap.size + 1, 1, none⟩ = some (.func (.func 24) #[] #[])
  pr : W.cell? ⟨w.heap.size, 4, none⟩ = some (.slice none 0 0)
  nf : W.frozen? ⟨w.heap.size + 1 + 1, 0, none⟩ = false
  nk : NK W (w.heap.size + 1 + 1) o
  sz : w.heap.size + 3 ≤ W.heap.size
theorem NK.below {W W' : World} {nb : Nat} {o : Option Bool} (h : NK W nb o) (hb : Below W.heap.size W W') : NK W' nb o := by
  have c : ∀ {p v}, W.cell? p = some v → W'.cell? p = some v := fun {p v} hp => (hb.cell (World.block_lt_of_cell? W p hp)).trans hp
  cases o with
  | none => exact c h
  | some x =>
    obtain ⟨g, h', h1, h2, h3⟩ := h
    exact ⟨g, h', c h1, c h2, c h3⟩
theorem FSt.grow {w W W' : World} {kb : Nat} {o : Option Bool} (h : FSt w W kb o) (hb : Below W.heap.size W W') : FSt w W' kb o := by
  have c : ∀ {p v}, W.cell? p = some v → W'.cell? p = some v := fun {p v} hp => (hb.cell (World.block_lt_of_cell? W p hp)).trans hp
  have hs := h.sz
  exact ⟨h.below.trans (hb.mono (by omega)), c h.k0, c h.k1, c h.pr, (hb.frozen (p := ⟨w.heap.size + 1 + 1, 0, none⟩) (by show w.heap.size + 1 + 1 < _; omega)).trans h.nf, h.nk.below hb, Nat.le_trans hs hb.size⟩
theorem FSt.put {w W : World} {kb g h' : Nat} {x : Bool} (h : FSt w W kb none) (h2 : W.cell? ⟨g, 0, none⟩ = some (.slice (some ⟨h', 0, none⟩) 1 1)) (h3 : W.cell? ⟨h', 0, none⟩ = some (.string (nm x))) :
    FSt w (W.setCell ⟨w.heap.size + 1 + 1, 0, none⟩ (.iface 40 (.pointer (some ⟨g, 0, none⟩)))) kb (some x) := by
  have h0 : W.cell? ⟨w.heap.size + 1 + 1, 0, none⟩ = some .nilIface := h.nk
  have hs := h.sz
  have hg : g ≠ w.heap.size + 1 + 1 := fun e => by rw [e, h0] at h2; cases h2
  have hh : h' ≠ w.heap.size + 1 + 1 := fun e => by rw [e, h0] at h3; cases h3
  refine ⟨h.below.setCell (p := ⟨w.heap.size + 1 + 1, 0, none⟩) (by show w.heap.size ≤ w.heap.size + 1 + 1; omega) _, (set_other (.inl (by show w.heap.size + 1 ≠ _; omega))).trans h.k0, (set_other (.inl (by show w.heap.size + 1 ≠ _; omega))).trans h.k1, (set_other (.inl (by show w.heap.size ≠ _; omega))).trans h.pr, ?_, ?_, by simpa using hs⟩
  · rw [World.frozen?_setCell]
    exact h.nf
  · exact ⟨g, h', World.cell?_setCell_same' _ _ _ (by rw [h0]; rfl), (set_other (.inl hg)).trans h2, (set_other (.inl hh)).trans h3⟩

/-- How checkForwards answers. -/
def CF (af : Bool) (o : Option Bool) (e : Ending) (w w' : World) : Prop := match af, o with
  | true, _ => IsNilA e w w'
  | false, some x => IsNoKey x e w w'
  | false, none => IsPlain e w w'

set_option maxRecDepth 100000 in
set_option maxHeartbeats 8000000 in
theorem forwards (F : Interp) (gx : Bool) (mb n rb kb : Nat) (ks : List Bool) (md : Nat → ZM) (bf : Nat → Nat) (hn : n ≤ 1024) (w : World) (hF : F.answers w.tape) (hg : ErrT w) (hk : KeysAt w kb ks) (hd : GDat w mb n md bf) :
    Calls Ybaf.prog 22 #[gosI gx mb n, .iface 43 (.pointer (some ⟨rb, 0, none⟩)), keysV kb] w fun e w' => CF (AF md ks n) (FM md ks n) e w w' := by
  unfold gosI keysV
  have hn1 : (n : Int) ≤ 1024 := by omega
  have t1 : w.heap.size < w.heap.size + 1 + 1 := by omega
  go_enter Ybaf.func22, Ybaf.ntmps22
  go_wp2_with fail
  refine wp_loop_rounds 1 ?_
  rw [rounds_succ]
  go_wp2_with fail
  go_loopg [32] n (fun g s32 wr => ∃ j, j + g = n ∧ s32 = .int .i64 j ∧ AF md ks j = false ∧ FSt w wr kb (FM md ks j))
  case atStart =>
    refine ⟨0, by omega, rfl, rfl, ⟨?_, by go_simp, by go_simp, by go_simp, by go_simp, by show World.cell? _ _ = _; go_simp, by simp⟩⟩
    repeat (first | exact Below.refl _ _ | apply Below.drew | refine Below.alloc ?_ (by first | omega | (simp <;> omega)) _)
  case round =>
    obtain ⟨j, hj, rfl, haf, hst⟩ := hrel
    have HJ : Hid (j + gk = n) := hj
    clear hj
    by_cases hjl : j < n
    · have hji : (j : Int) < (n : Int) := by omega
      obtain ⟨⟨m0, m1, m2, m3, m4, m5, m6⟩, hdj, hlj⟩ := hd.2 j hjl
      have c : ∀ o, wr.cell? ⟨mb, o, none⟩ = w.cell? ⟨mb, o, none⟩ := fun o => hst.below.cell (p := ⟨mb, o, none⟩) hd.1
      have e0 := (c _).trans m0
      have e1 := (c _).trans m1
      have e2 := (c _).trans m2
      have e3 := (c _).trans m3
      have e4 := (c _).trans m4
      have e5 := (c _).trans m5
      have e6 := (c _).trans m6
      clear m0 m1 m2 m3 m4 m5 m6 c
      have s1 := hst.below.size
      have s2 := hst.sz
      have tm : mb < wr.heap.size := by have := hd.1; omega
      have tk : w.heap.size + 1 < wr.heap.size := by omega
      have B1 : Below wr.heap.size wr (wr.alloc (.cells (msgC (md j).x (md j).p (md j).st (bf j) ((md j).xs.length + 64)) 34)) := (Below.refl _ _).alloc (Nat.le_refl _) _
      unfold msgC at B1
      have hst1 := hst.grow B1
      have hk1 := hk.below hst1.below
      have hd1 := hdj.below hst1.below hdj.2.2
      have hF1 : F.answers (wr.alloc (.cells #[.string (nm (md j).x), .string (pn (md j).p), .int .u64 (md j).st, .slice none 0 0, .slice none 0 0, .slice (some ⟨bf j, 0, none⟩) ((md j).xs.length + 64) ((md j).xs.length + 64), .int .i64 0] 34)).tape := by rw [hst1.below.tape]; exact hF
      have kk0 := hst.k0
      have kk1 := hst.k1
      obtain ⟨q, hq⟩ : ∃ q, q = ks.contains (md j).x := ⟨_, rfl⟩
      have HQ : Hid (q = ks.contains (md j).x) := hq
      clear hq
      have HAF : Hid (AF md ks j = false) := haf
      clear haf
      cases q
      · go_wp2_with (first
          | (go_at_call 33; refine (verify_no kb ks (md j).x (md j).p (md j).st (bf j) ((md j).xs.length + 64) HQ _ hk1).mono ?_; rintro e W3 ⟨⟨g, h, rfl, gc, hc⟩, hb3⟩; have hst3 := hst1.grow hb3; clear hb3))
        have hg3 := hg.below hst3.below hg.lt
        cases hfm : FM md ks j with
        | none =>
          rw [hfm] at hst3
          have h0 : W3.cell? ⟨w.heap.size + 1 + 1, 0, none⟩ = some .nilIface := hst3.nk
          refine (failed_nokey0 (w.heap.size + 1 + 1) ⟨g, 0, none⟩ W3 hg3 h0 hst3.nf (by omega)).mono ?_
          rintro e W4 ⟨rfl, hb4⟩
          have hst4 := (hst3.put gc hc).grow (by simpa using hb4)
          go_wp2_with fail
          go_roundg (gk - 1)
          case measure =>
            have := HJ.out
            omega
          case rel =>
            have h1 := HJ.out
            have h2 := HQ.out
            have h3 := HAF.out
            refine ⟨j + 1, by omega, by go_num, AF_no h3 h2, ?_⟩
            have e : FM md ks (j + 1) = some (md j).x := FM_new hfm h2
            rw [e]
            exact hst4
        | some y =>
          rw [hfm] at hst3
          obtain ⟨g2, h2, n1, n2, n3⟩ : NK W3 (w.heap.size + 1 + 1) (some y) := hst3.nk
          refine (failed_nokey1 (w.heap.size + 1 + 1) ⟨g, 0, none⟩ ⟨g2, 0, none⟩ W3 hg3 n1).mono ?_
          rintro e W4 ⟨rfl, hb4⟩
          have hst4 := hst3.grow hb4
          go_wp2_with fail
          go_roundg (gk - 1)
          case measure =>
            have := HJ.out
            omega
          case rel =>
            have h1 := HJ.out
            have h2 := HQ.out
            have h3 := HAF.out
            refine ⟨j + 1, by omega, by go_num, AF_no h3 h2, ?_⟩
            have e : FM md ks (j + 1) = some y := FM_old hfm
            rw [e]
            exact hst4
      · cases hok : (md j).ok
        · rw [hok] at hd1
          go_wp2_with (first
            | (go_at_call 33; refine (verify_yes F kb ks (md j).x (md j).p (md j).st (bf j) (md j).xs false HQ _ hF1 hk1 hd1 hlj).mono ?_; rintro e W3 ⟨⟨ad, rfl⟩, hb3⟩; have hst3 := hst1.grow hb3; clear hb3; have hg3 := hg.below hst3.below hg.lt)
            | (go_at_call 31; refine (failed_plain _ ad W3 hg3).mono ?_; rintro e W4 ⟨rfl, hb4⟩; have hst4 := hst3.grow hb4; clear hb4))
          go_ret
          have h2 := HQ.out
          have e : AF md ks n = true := AF_mono (j := j + 1) (AF_bad h2 hok) (by omega)
          rw [e]
          exact ⟨rfl, hst4.below⟩
        · rw [hok] at hd1
          go_wp2_with (first
            | (go_at_call 33; refine (verify_yes F kb ks (md j).x (md j).p (md j).st (bf j) (md j).xs true HQ _ hF1 hk1 hd1 hlj).mono ?_; rintro e W3 ⟨rfl, hb3⟩; have hst3 := hst1.grow hb3; clear hb3)
            | (go_at_call 31; refine (failed_nil _ W3).mono ?_; rintro e W4 ⟨rfl, hb4⟩; have hst4 := hst3.grow hb4; clear hb4))
          go_roundg (gk - 1)
          case measure =>
            have := HJ.out
            omega
          case rel =>
            have h1 := HJ.out
            have h2 := HQ.out
            have h3 := HAF.out
            refine ⟨j + 1, by omega, by go_num, AF_ok h3 hok, ?_⟩
            have e : FM md ks (j + 1) = FM md ks j := FM_same h2
            rw [e]
            exact hst4
    · obtain rfl : j = n := by have := HJ.out; omega
      have hpr := hst.pr
      have HAF : Hid (AF md ks j = false) := haf
      clear haf
      cases hfm : FM md ks j with
      | none =>
        rw [hfm] at hst
        have h0 : wr.cell? ⟨w.heap.size + 1 + 1, 0, none⟩ = some .nilIface := hst.nk
        go_wp2_with fail
        refine wp_loop_rounds 1 ?_
        rw [rounds_succ]
        go_wp2_with (go_at_call 8; refine (errNew_calls _ _).mono ?_; rintro e w' ⟨rfl, rfl⟩)
        go_ret
        rw [HAF.out]
        first | rw [hfm] | skip
        exact ⟨⟨_, rfl⟩, hst.below.alloc hst.below.size _⟩
      | some y =>
        rw [hfm] at hst
        obtain ⟨g2, h2, n1, n2, n3⟩ : NK wr (w.heap.size + 1 + 1) (some y) := hst.nk
        go_wp2_with fail
        refine wp_loop_rounds 1 ?_
        rw [rounds_succ]
        go_wp2_with fail
        go_ret
        rw [HAF.out]
        first | rw [hfm] | skip
        exact ⟨⟨g2, h2, rfl, n2, n3⟩, hst.below⟩
end Go.Proofs.YbulkcegsFmt
