import Derived.Test.YbulkcegsFmtGa
namespace Go.Proofs.YbulkcegsFmt
open Go.RowKit Go.Shelf Go.Extern.Stop Go.Stop Go.Extern
set_option linter.unusedVariables false
attribute [local go_sem] Oper.semAt_some

/-- A forwarded step message, in the row of the gossip's mistakes. -/
def MiAt (w : World) (mb i : Nat) (x p : Bool) (st : Int) (b n : Nat) : Prop :=
  w.cell? ⟨mb, i * 7, none⟩ = some (.string (nm x)) ∧ w.cell? ⟨mb, i * 7 + 1, none⟩ = some (.string (pn p)) ∧ w.cell? ⟨mb, i * 7 + 2, none⟩ = some (.int .u64 st) ∧ w.cell? ⟨mb, i * 7 + 3, none⟩ = some (.slice none 0 0)
  ∧ w.cell? ⟨mb, i * 7 + 4, none⟩ = some (.slice none 0 0) ∧ w.cell? ⟨mb, i * 7 + 5, none⟩ = some (.slice (some ⟨b, 0, none⟩) n n) ∧ w.cell? ⟨mb, i * 7 + 6, none⟩ = some (.int .i64 0)
theorem MiAt.below {w w' : World} {mb i : Nat} {x p : Bool} {st : Int} {b n : Nat} (h : MiAt w mb i x p st b n) {k : Nat} (hb : Below k w w') (hg : mb < k) : MiAt w' mb i x p st b n := by
  have c : ∀ o, w'.cell? ⟨mb, o, none⟩ = w.cell? ⟨mb, o, none⟩ := fun o => hb.cell (p := ⟨mb, o, none⟩) hg
  obtain ⟨h0, h1, h2, h3, h4, h5, h6⟩ := h
  exact ⟨(c _).trans h0, (c _).trans h1, (c _).trans h2, (c _).trans h3, (c _).trans h4, (c _).trans h5, (c _).trans h6⟩
def MisAt (w : World) (mb : Nat) (ms : List Msg) : Prop := ∀ k, k < ms.length → MiAt w mb k (ms.getD k Msg.z).1 (ms.getD k Msg.z).2.1 (ms.getD k Msg.z).2.2.1 (ms.getD k Msg.z).2.2.2.1 (ms.getD k Msg.z).2.2.2.2
theorem MisAt.below {w w' : World} {mb : Nat} {ms : List Msg} (h : MisAt w mb ms) {k : Nat} (hb : Below k w w') (hg : mb < k) : MisAt w' mb ms := fun i hi => (h i hi).below hb hg

/-- What a round that goes on keeps: every block of cells. -/
def KpC (A B : World) : Prop := A.heap.size ≤ B.heap.size ∧ ∀ (k : Nat) (o : Obj), A.heap[k]? = some o → o.isCells = true → B.heap[k]? = some o
theorem KpC.refl (A : World) : KpC A A := ⟨Nat.le_refl _, fun _ _ h _ => h⟩
theorem KpC.trans {A B C : World} (h : KpC A B) (g : KpC B C) : KpC A C := ⟨Nat.le_trans h.1 g.1, fun k o hk ho => g.2 k o (h.2 k o hk ho) ho⟩
theorem KpC.of_below {A B : World} (h : Below A.heap.size A B) : KpC A B := ⟨h.size, fun k o hk _ => (h.block k (Array.getElem?_eq_some_iff.1 hk).1).trans hk⟩
theorem KpC.put (b : Nat) (W : World) (l : Nat) (o o' : Obj) (_ : b ≤ l) (ho : W.heap[l]? = some o) (hc : o.isCells = false) (_ : o.isWalk = false) : KpC W (W.putObj l o') := by
  refine ⟨by simp [World.putObj], fun k u hk hu => ?_⟩
  have hne : k ≠ l := fun e => by
    subst e
    rw [ho] at hk
    cases hk
    rw [hc] at hu
    cases hu
  simp only [World.putObj]
  rw [Array.getElem?_setIfInBounds_ne (Ne.symm hne)]
  exact hk
theorem KpC.cell {A B : World} (h : KpC A B) {p : Addr} {v : Value} (hp : A.cell? p = some v) : B.cell? p = some v := by
  obtain ⟨b, off, sp⟩ := p
  cases ho : A.heap[b]? with
  | none => simp [World.cell?, ho] at hp
  | some o =>
    have hoc : o.isCells = true := by
      cases o <;> first | rfl | (simp [World.cell?, ho] at hp)
    rw [← hp]
    exact World.cell?_of_block (a := ⟨b, off, sp⟩) ((h.2 b o ho hoc).trans ho.symm)

set_option maxRecDepth 100000 in
set_option maxHeartbeats 4000000 in
/-- walk over one gossip's mistakes. -/
theorem walkG_in (F : Fence) (hd : F.depth = none) (h29 : F.fn 29) (hro : F.round = none) (l : Nat) (ms : List Msg) (hms : ms.length ≤ 4096) (J Jx : List Msg → World → Prop)
    (hY : ∀ m pre x W, J pre W → pre.length < ms.length → YieldAt F m Ybaf.prog l #[Msg.v x] W fun e W' =>
      (e = .returned (.bool true) ∧ J (pre ++ [x]) W' ∧ KpC W W') ∨ (e = .returned (.bool false) ∧ Jx (pre ++ [x]) W'))
    (n pb c mb db : Nat) (gx : Bool) (W : World) (hJa : AbidesFrom W.heap.size J) (hgo : GosAt W pb gx mb ms.length db) (hc : MisAt W mb ms) (h0 : J [] W) :
    CallsIn F n Ybaf.prog 29 #[.slice (some ⟨pb, 0, none⟩) 1 c, .int .i64 16, .func (.yield l) #[] #[]] W fun e W' =>
      (e = .returned (.bool true) ∧ J ms W') ∨ (e = .returned (.bool false) ∧ ∃ q, q <+: ms ∧ Jx q W') := by
  have hdd : ∀ k : Nat, (F.depth.isSome = true → 1 ≤ k) := fun k h => by rw [hd] at h; cases h
  have g0 : W.cell? ⟨pb, 0, none⟩ = some (.iface 64 (gosV gx mb ms.length db)) := hgo
  unfold gosV at g0
  refine callsIn_of_wp Ybaf.func29 rfl h29 ?_ hro
  simp only [Ybaf.ntmps29, List.size_toArray, List.length_cons, List.length_nil, Nat.reduceAdd, Nat.reduceSub, Array.replicate_succ, Array.replicate_zero, List.push_toArray, List.append_toArray, List.nil_append, List.cons_append]
  gi_wp2
  refine wpIn_loop_rounds 2 ?_
  rw [roundsIn_succ]
  gi_wp2
  have hb0 : KpC W (W.alloc (.cells (gosC gx mb ms.length db) 64)) := KpC.of_below ((Below.refl _ _).alloc (Nat.le_refl _) _)
  have hJ0 := abides_alloc hJa (.cells (gosC gx mb ms.length db) 64) h0
  have hx0 : (W.alloc (.cells (gosC gx mb ms.length db) 64)).cell? ⟨W.heap.size, 4, none⟩ = some (.slice none 0 0) := by unfold gosC; go_simp
  unfold gosC at hb0 hJ0 hx0
  gi_loopw [38] (fun i wr => ∃ k : Nat, k ≤ ms.length ∧ i = .int .i64 k ∧ J (ms.take k) wr ∧ KpC W wr ∧ wr.cell? ⟨W.heap.size, 4, none⟩ = some (.slice none 0 0))
    (fun i _ => ms.length - (intOf i).toNat)
  case atStart => exact ⟨0, Nat.zero_le _, rfl, hJ0, hb0, hx0⟩
  case round =>
    obtain ⟨k, hk, rfl, hJs, hnx, hx⟩ := hrel
    clear hb0 hJ0 hx0
    by_cases hlt : k < ms.length
    · have hm := hc k hlt
      have hsn := take_snoc' hlt
      generalize ms.getD k Msg.z = m at hm hsn
      obtain ⟨x, p, st, b, nn⟩ := m
      obtain ⟨m0, m1, m2, m3, m4, m5, m6⟩ := hm
      have e0 := hnx.cell m0
      have e1 := hnx.cell m1
      have e2 := hnx.cell m2
      have e3 := hnx.cell m3
      have e4 := hnx.cell m4
      have e5 := hnx.cell m5
      have e6 := hnx.cell m6
      clear m0 m1 m2 m3 m4 m5 m6
      dsimp only at e0 e1 e2 e3 e4 e5 e6
      have hlti : (k : Int) < ms.length := by omega
      have hbx : KpC wr (wr.alloc (.cells (msgC x p st b nn) 34)) := KpC.of_below ((Below.refl _ _).alloc (Nat.le_refl _) _)
      obtain ⟨fn, tmps, assign, body, hy, hR⟩ := hY (n - 1) _ (x, p, st, b, nn) (wr.alloc (.cells (msgC x p st b nn) 34)) (abides_alloc hJa (.cells (msgC x p st b nn) 34) hJs) (by rw [List.length_take]; omega)
      unfold Msg.v msgV msgC at hy
      dsimp only at hy
      gi_wp2
      refine hR.mono ?_
      rintro e W3 (⟨rfl, hJ3, hk3⟩ | ⟨rfl, hJx3⟩)
      · gi_wp2
        go_roundw
        case rel => exact ⟨k + 1, by omega, by simp, by rw [hsn]; exact hJ3, hnx.trans (hbx.trans hk3), (hbx.trans hk3).cell hx⟩
        case measure => simp [intOf]; omega
      · gi_wp2
        go_ret
        exact .inr ⟨rfl, _, by rw [← hsn]; exact List.take_prefix _ _, hJx3⟩
    · obtain rfl : k = ms.length := by omega
      gi_wp2
      refine wpIn_loop_rounds 1 ?_
      rw [roundsIn_succ]
      gi_wp2
      rw [roundsIn_succ]
      gi_wp2
      go_ret
      exact .inl ⟨rfl, by rwa [List.take_length] at hJs⟩

set_option maxHeartbeats 4000000 in
theorem steps1G_in (F : Fence) (hd : F.depth = none) (h28 : F.fn 28) (h29 : F.fn 29) (hro : F.round = none) (n l Bp Bd : Nat) (ms : List Msg) (hms : ms.length ≤ 4096) (J Jx : List Msg → World → Prop)
    (hY : ∀ pre x W, J pre W → pre.length < ms.length → YieldAt F (n - 1) Ybaf.prog l #[Msg.v x] W fun e W' =>
      (e = .returned (.bool true) ∧ J (pre ++ [x]) W' ∧ KpC W W') ∨ (e = .returned (.bool false) ∧ Jx (pre ++ [x]) W'))
    (pb c mb db : Nat) (gx : Bool) (W : World) (hJa : AbidesFrom W.heap.size J) (hgo : GosAt W pb gx mb ms.length db) (hc : MisAt W mb ms)
    (hBp : W.cell? ⟨Bp, 0, none⟩ = some (.slice (some ⟨pb, 0, none⟩) 1 c)) (hBd : W.cell? ⟨Bd, 0, none⟩ = some (.int .i64 16)) (h0 : J [] W) :
    CallsIn F n Ybaf.prog 28 #[.func (.yield l) #[] #[], .pointer (some ⟨Bp, 0, none⟩), .pointer (some ⟨Bd, 0, none⟩)] W fun e W' => (∃ v, e = .returned v) ∧
      ((∃ ys, ys = ms ∧ J ys W') ∨ (∃ pre, pre <+: ms ∧ Jx pre W')) := by
  have hdd : ∀ k : Nat, (F.depth.isSome = true → 1 ≤ k) := fun k h => by rw [hd] at h; cases h
  have hp := walkG_in F hd h29 hro l ms hms J Jx (fun m pre x W hj hl => yieldAt_anyDepth hd m (hY pre x W hj hl)) (n - 1) pb c mb db gx W hJa hgo hc h0
  refine callsIn_of_wp Ybaf.func28 rfl h28 ?_ hro
  simp only [Ybaf.ntmps28, List.size_toArray, List.length_cons, List.length_nil, Nat.reduceAdd, Nat.reduceSub, Array.replicate_succ, Array.replicate_zero, List.push_toArray, List.append_toArray, List.nil_append, List.cons_append]
  gi_wp2_with ((try refine ⟨hdd _, ?_⟩); gi_at_call 29; refine hp.mono ?_; clear hp; rintro e W1 (⟨rfl, hJ1⟩ | ⟨rfl, q, hq, hx⟩))
  · go_end0
    exact ⟨⟨_, rfl⟩, .inl ⟨_, rfl, hJ1⟩⟩
  · go_end0
    exact ⟨⟨_, rfl⟩, .inr ⟨q, hq, hx⟩⟩

/-- The iterator over a gossip's step messages. -/
theorem stepsG_stops (F : Fence) (hd : F.depth = none) (h28 : F.fn 28) (h29 : F.fn 29) (hro : F.round = none) (n Bp Bd : Nat) (ms : List Msg) (hms : ms.length ≤ 4096) (pb c mb db : Nat) (gx : Bool) (w : World) (hpb : pb < w.heap.size) (hmb : mb < w.heap.size)
    (hBp' : Bp < w.heap.size) (hBd' : Bd < w.heap.size) (hgo : GosAt w pb gx mb ms.length db) (hc : MisAt w mb ms)
    (hBp : w.cell? ⟨Bp, 0, none⟩ = some (.slice (some ⟨pb, 0, none⟩) 1 c)) (hBd : w.cell? ⟨Bd, 0, none⟩ = some (.int .i64 16)) :
    SeqStopsK F n Ybaf.prog 28 #[.pointer (some ⟨Bp, 0, none⟩), .pointer (some ⟨Bd, 0, none⟩)] (fun x : Msg => #[Msg.v x]) KpC (fun ys => ys = ms) (fun pre => pre <+: ms) ms.length w := fun l J Jx W hW hJa _ hY h0 =>
  steps1G_in F hd h28 h29 hro n l Bp Bd ms hms J Jx hY pb c mb db gx W hJa (hgo.below hW hpb) (hc.below hW hmb) ((hW.cell (p := ⟨Bp, 0, none⟩) hBp').trans hBp) ((hW.cell (p := ⟨Bd, 0, none⟩) hBd').trans hBd) h0
end Go.Proofs.YbulkcegsFmt
