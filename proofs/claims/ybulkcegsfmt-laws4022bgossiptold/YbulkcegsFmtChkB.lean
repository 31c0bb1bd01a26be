import Derived.Test.YbulkcegsFmtChk0
import Derived.Deep.RegionHeld3
import Derived.Deep.DrawnRows
namespace Go.Proofs.YbulkcegsFmt
open Go.RowKit Go.Shelf Go.Extern.Stop Go.Stop Go.Extern
set_option linter.unusedVariables false
attribute [local go_sem] Oper.semAt_some
attribute [local go_sem ↓] Go.wp_at_zero Go.wp_at_succ

theorem abs_act {c : Code} {P : Program} {Q : Exit → Act → World → Prop} {a : Act} {w : World} (h : ∀ A, A = a → c.wp P Q A w) : c.wp P Q a w := h a rfl

theorem rf_plain {c : Code} {P : Program} {Q : Exit → Act → World → Prop} {a : Act} {w : World} (h : c.wpIn Fence.wide 6 P Q a w) : c.wp P Q a w := wpIn_wide.1 h

theorem merge_in {F : Fence} {n : Nat} {P : Program} {c : Code} {Q : Exit → Act → World → Prop} {a : Act} {w : World} (A : Act) (W : World) (h : c.wpIn F n P (fun e a' W' => e = .normal ∧ a' = A ∧ W' = W) a w) (k : Q .normal A W) : c.wpIn F n P Q a w :=
  wpIn_mono h (by rintro e a' W' ⟨rfl, rfl, rfl⟩; exact k)

theorem keepsOthers_of_below {W W' : World} (h : Below W.heap.size W W') : KeepsOthers W W' := ⟨h.size, fun k o hk _ => (h.block k (Array.getElem?_eq_some_iff.1 hk).1).trans hk⟩

/-- What check's loop over the step messages keeps, and how it may be left. -/
def LpI (W2 : World) (pre : List Msg) (W : World) : Prop := (∀ m, m ∈ pre → m.2.1 = true) ∧ Below W2.heap.size W2 W
def LpX (w : World) (c : Code) (pre : List Msg) (W : World) : Prop := (c = .ret ∧ (∃ m, m ∈ pre ∧ m.2.1 = false) ∧ ∃ ad, W.cell? ⟨w.heap.size + 1 + 1, 0, none⟩ = some (.iface 66 (.pointer (some ad)))) ∧ Below w.heap.size w W
def LpA (W2 : World) (A0 : Act) (x : Msg) (a' : Act) (W : World) : Prop := ∃ Bx, a' = { tmps := (A0.tmps.setIfInBounds 58 (Msg.v x)).setIfInBounds 10 (.pointer (some ⟨Bx, 0, none⟩)), defers := [] } ∧ W.cell? ⟨Bx, 1, none⟩ = some (.string (pn x.2.1))
theorem LpI.own (W2 : World) : OwnFrom W2.heap.size (LpI W2) := OwnFrom.and (ownFrom_pure _ _) (ownFrom_below (Nat.le_refl _) (Nat.le_refl _))
theorem LpX.own (w W2 : World) (h : w.heap.size ≤ W2.heap.size) (c : Code) : OwnFrom W2.heap.size (LpX w c) := OwnFrom.and (Own.from (fun s A B row hs hg hr => by
    obtain ⟨h1, h2, ad, h3⟩ := hs
    exact ⟨h1, h2, ad, cell_kept h3 hg hr⟩) _) (ownFrom_below (Nat.le_refl _) h)
theorem LpA.own (W2 : World) (A0 : Act) (x : Msg) (a' : Act) : OwnFrom W2.heap.size (fun (_ : Unit) W => LpA W2 A0 x a' W) := Own.from (fun s A B row hs hg hr => by
    obtain ⟨Bx, h1, h2⟩ := hs
    exact ⟨Bx, h1, cell_kept h2 hg hr⟩) _

/-- Check's state behind its loop: the block for the rounds' deferred calls too. -/
def DSt (w W : World) (rb kb D : Nat) : Prop := CkSt w W rb kb ∧ W.heap[D]? = some (.deferred (some [])) ∧ w.heap.size ≤ D
theorem DSt.below {w W W' : World} {rb kb D : Nat} (h : DSt w W rb kb D) (hb : Below W.heap.size W W') : DSt w W' rb kb D :=
  ⟨h.1.below hb h.1.2.2.2.2.2.2, (hb.block D (Array.getElem?_eq_some_iff.1 h.2.1).1).trans h.2.1, h.2.2⟩
theorem DSt.alloc {w W : World} {rb kb D : Nat} (h : DSt w W rb kb D) (o : Obj) : DSt w (W.alloc o) rb kb D := h.below ((Below.refl _ _).alloc (Nat.le_refl _) _)
theorem DSt.drew {w W : World} {rb kb D : Nat} (h : DSt w W rb kb D) : DSt w W.drew rb kb D := h.below (Below.refl _ _).drew
theorem endC {w W : World} {D : Nat} {v : Value} (hK : W.heap[D]? = some (.deferred (some []))) (hD : w.heap.size ≤ D) (hc : W.cell? ⟨w.heap.size + 1 + 1, 0, none⟩ = some v) (hB : Below w.heap.size w W) :
    (W.putObj D (.deferred none)).cell? ⟨w.heap.size + 1 + 1, 0, none⟩ = some v ∧ Below w.heap.size w (W.putObj D (.deferred none)) :=
  ⟨cell_kept hc (grownBy_putObj' _ D (.deferred none)) (fun r e => by cases e; exact ⟨_, hK, rfl⟩), hB.trans (belowK_b (w := w) (Nat.le_refl _) W D _ _ hD hK rfl rfl)⟩
theorem DSt.stored {w W : World} {rb kb D : Nat} (h : DSt w W rb kb D) (v : Value) : (W.setCell ⟨w.heap.size + 1 + 1, 0, none⟩ v).heap[D]? = some (.deferred (some [])) ∧ Below w.heap.size w (W.setCell ⟨w.heap.size + 1 + 1, 0, none⟩ v) ∧ (W.setCell ⟨w.heap.size + 1 + 1, 0, none⟩ v).cell? ⟨w.heap.size + 1 + 1, 0, none⟩ = some v :=
  ⟨(KeepsOthers.setCell _ _ _).same D _ h.2.1 rfl, h.1.1.setCell (p := ⟨w.heap.size + 1 + 1, 0, none⟩) (by show w.heap.size ≤ w.heap.size + 1 + 1; omega) _, World.cell?_setCell_same' _ _ _ (by rw [h.1.2.2.2.2.1]; rfl)⟩

theorem DSt.fin {w W : World} {rb kb D : Nat} (h : DSt w W rb kb D) (v : Value) : (W.setCell ⟨w.heap.size + 1 + 1, 0, none⟩ v).heap[D]? = some (.deferred (some []))
    ∧ ((W.setCell ⟨w.heap.size + 1 + 1, 0, none⟩ v).putObj D (.deferred none)).cell? ⟨w.heap.size + 1 + 1, 0, none⟩ = some v ∧ Below w.heap.size w ((W.setCell ⟨w.heap.size + 1 + 1, 0, none⟩ v).putObj D (.deferred none))
    ∧ ∀ p u, p.block ≠ w.heap.size + 1 + 1 → W.cell? p = some u → ((W.setCell ⟨w.heap.size + 1 + 1, 0, none⟩ v).putObj D (.deferred none)).cell? p = some u := by
  obtain ⟨h1, h2, h3⟩ := h.stored v
  obtain ⟨h4, h5⟩ := endC h1 h.2.2 h3 h2
  refine ⟨h1, h4, h5, fun p u hp hu => ?_⟩
  refine cell_kept ?_ (grownBy_putObj' _ D (.deferred none)) (fun r e => by cases e; exact ⟨_, h1, rfl⟩)
  rw [World.cell?_setCell_other _ _ _ _ (fun e => hp (by rw [← e]))]
  exact hu

theorem abs_world {c : Code} {P : Program} {Q : Exit → Act → World → Prop} {a : Act} {w : World} (S : World → Prop) (h : S w) (k : ∀ W, S W → c.wp P Q a W) : c.wp P Q a w := k w h
/-- How check may answer. -/
def IsPlain (e : Ending) (w w' : World) : Prop := (∃ ad, e = .returned (.iface 66 (.pointer (some ad)))) ∧ Below w.heap.size w w'
def IsNoKey (x : Bool) (e : Ending) (w w' : World) : Prop := (∃ g h, e = .returned (.iface 40 (.pointer (some ⟨g, 0, none⟩))) ∧ w'.cell? ⟨g, 0, none⟩ = some (.slice (some ⟨h, 0, none⟩) 1 1) ∧ w'.cell? ⟨h, 0, none⟩ = some (.string (nm x))) ∧ Below w.heap.size w w'

def AnsC (r : Value) (rb : Nat) (e : Ending) (w w' : World) : Prop := Below w.heap.size (w.setCell ⟨rb, 1, none⟩ (.int .i64 1)) w' ∧ (r = .nilIface → ∃ ad, e = .returned (.iface 66 (.pointer (some ad))))
  ∧ (∀ ra, r = .iface 66 (.pointer (some ra)) → e = .returned .nilIface) ∧ (∀ ra, r = .iface 40 (.pointer (some ra)) → e = .returned r)
def Ans1 (p q ok x : Bool) (r : Value) (rb : Nat) (e : Ending) (w w' : World) : Prop := match p, q, ok with
  | false, _, _ => IsPlain e w w'
  | true, false, _ => IsNoKey x e w w'
  | true, true, false => IsPlain e w w'
  | true, true, true => AnsC r rb e w w'

@[go_sem] theorem Ybaf.nil79 (w : World) : (binOp .eql 79 (.slice none 0 0) (.slice none 0 0)).run Ybaf.prog w = .ok (.bool true) w := by kernel_rfl
@[go_sem] theorem Ybaf.some79 (a : Addr) (n c : Nat) (w : World) : (binOp .eql 79 (.slice (some a) n c) (.slice none 0 0)).run Ybaf.prog w = .ok (.bool false) w := by kernel_rfl
theorem below_set {n : Nat} {w W : World} (h : Below n w W) (p : Addr) (v : Value) (hp : p.block < n) : Below n (w.setCell p v) (W.setCell p v) := by
  refine ⟨h.os, h.tape, h.output, by simpa using h.size, fun k hk => ?_⟩
  simp only [World.setCell, Array.getElem?_modify]
  rw [h.block k hk]
/-- Check's state behind the protocol's own check. -/
def ESt (w W : World) (rb D : Nat) : Prop := Below w.heap.size (w.setCell ⟨rb, 1, none⟩ (.int .i64 1)) W ∧ W.cell? ⟨w.heap.size + 1 + 1, 0, none⟩ = some .nilIface ∧ W.frozen? ⟨w.heap.size + 1 + 1, 0, none⟩ = false ∧ w.heap.size + 3 ≤ W.heap.size
  ∧ W.heap[D]? = some (.deferred (some [])) ∧ w.heap.size ≤ D
theorem ESt.below {w W W' : World} {rb D : Nat} (h : ESt w W rb D) (hb : Below W.heap.size W W') : ESt w W' rb D := by
  obtain ⟨h0, h1, h2, h3, h4, h5⟩ := h
  exact ⟨h0.trans (hb.mono (by omega)), (hb.cell (p := ⟨w.heap.size + 1 + 1, 0, none⟩) (by show w.heap.size + 1 + 1 < _; omega)).trans h1, (hb.frozen (p := ⟨w.heap.size + 1 + 1, 0, none⟩) (by show w.heap.size + 1 + 1 < _; omega)).trans h2, Nat.le_trans h3 hb.size, (hb.block D (Array.getElem?_eq_some_iff.1 h4).1).trans h4, h5⟩
theorem ESt.of {w W W' : World} {rb kb D : Nat} (h : DSt w W rb kb D) (hrb : rb < w.heap.size) (hb : Below W.heap.size (W.setCell ⟨rb, 1, none⟩ (.int .i64 1)) W') : ESt w W' rb D := by
  obtain ⟨⟨h0, h1, h2, h3, h4, h5, h6⟩, h7, h8⟩ := h
  have hb' : ESt w (W.setCell ⟨rb, 1, none⟩ (.int .i64 1)) rb D := by
    refine ⟨below_set h0 _ _ hrb, ?_, ?_, by simpa using h6, (KeepsOthers.setCell _ _ _).same D _ h7 rfl, h8⟩
    · rw [World.cell?_setCell_other _ _ _ _ (fun e => by have := congrArg Addr.block e; simp only at this; omega)]
      exact h4
    · rw [World.frozen?_setCell]
      exact h5
  exact hb'.below (by simpa using hb)
theorem ESt.fin {w W : World} {rb D : Nat} (h : ESt w W rb D) (v : Value) : (W.setCell ⟨w.heap.size + 1 + 1, 0, none⟩ v).heap[D]? = some (.deferred (some []))
    ∧ ((W.setCell ⟨w.heap.size + 1 + 1, 0, none⟩ v).putObj D (.deferred none)).cell? ⟨w.heap.size + 1 + 1, 0, none⟩ = some v ∧ Below w.heap.size (w.setCell ⟨rb, 1, none⟩ (.int .i64 1)) ((W.setCell ⟨w.heap.size + 1 + 1, 0, none⟩ v).putObj D (.deferred none)) := by
  obtain ⟨h0, h1, h2, h3, h4, h5⟩ := h
  have k1 : (W.setCell ⟨w.heap.size + 1 + 1, 0, none⟩ v).heap[D]? = some (.deferred (some [])) := (KeepsOthers.setCell _ _ _).same D _ h4 rfl
  have k2 : Below w.heap.size (w.setCell ⟨rb, 1, none⟩ (.int .i64 1)) (W.setCell ⟨w.heap.size + 1 + 1, 0, none⟩ v) := h0.setCell (p := ⟨w.heap.size + 1 + 1, 0, none⟩) (by show w.heap.size ≤ w.heap.size + 1 + 1; omega) _
  have k3 : (W.setCell ⟨w.heap.size + 1 + 1, 0, none⟩ v).cell? ⟨w.heap.size + 1 + 1, 0, none⟩ = some v := World.cell?_setCell_same' _ _ _ (by rw [h1]; rfl)
  exact ⟨k1, cell_kept k3 (grownBy_putObj' _ D (.deferred none)) (fun r e => by cases e; exact ⟨_, k1, rfl⟩), k2.trans (belowK_b (w := w) (Nat.le_refl _) _ D _ _ h5 k1 rfl rfl)⟩
theorem ErrT.set {w : World} (h : ErrT w) (rb : Nat) (v : Value) : ErrT (w.setCell ⟨rb, 1, none⟩ v) := by
  unfold ErrT
  rw [World.cell?_setCell_other _ _ _ _ (fun e => by have := congrArg Addr.off e; simp only at this; omega)]
  exact h
theorem keyOf_no {kb : Nat} {ks : List Bool} {x : Bool} (hq : Hid (false = ks.contains x)) {w : World} (h : KeysAt w kb ks) :
    Calls Ybaf.prog 23 #[.string (nm x), .pointer (some ⟨kb, 0, none⟩)] w fun e w' => e = .returned (.slice none 0 0) ∧ Below w.heap.size w w' := by
  refine (keyOf_K x h).mono ?_
  rw [← hq.out]
  exact fun e w' h => h
theorem keyOf_yes {kb : Nat} {ks : List Bool} {x : Bool} (hq : Hid (true = ks.contains x)) {w : World} (h : KeysAt w kb ks) :
    Calls Ybaf.prog 23 #[.string (nm x), .pointer (some ⟨kb, 0, none⟩)] w fun e w' => ∃ g, e = .returned (.slice (some ⟨g, 0, none⟩) 32 32) ∧ Below w.heap.size w w' := by
  refine (keyOf_K x h).mono ?_
  rw [← hq.out]
  exact fun e w' h => ⟨_, h⟩

end Go.Proofs.YbulkcegsFmt
