import Derived.Test.YbulkcegsFmtStB
namespace Go.Proofs.YbulkcegsFmt
open Go.RowKit Go.Shelf Go.Extern.Stop Go.Stop Go.Extern
set_option linter.unusedVariables false

theorem name_x (m : ZM) (w : World) : Calls Ybaf.prog 5 #[.int .u8 m.nd] w fun e w' => e = .returned (.string (nm m.x)) ∧ w' = w := name_calls m.nd w
theorem pname_p (m : ZM) (w : World) : Calls Ybaf.prog 6 #[.int .u8 m.pr] w fun e w' => e = .returned (.string (pn m.p)) ∧ w' = w := pname_calls m.pr w
@[go_sem] theorem pn_p2 (x : Bool) : ((pn x).toList == [112]) = x := by rw [Go.ByteArray.toList_eq]; cases x <;> rfl
theorem ErrT.alloc {w : World} (h : ErrT w) (o : Obj) : ErrT (w.alloc o) := h.below ((Below.refl _ _).alloc (Nat.le_refl _) _) h.lt
theorem ErrT.drew {w : World} (h : ErrT w) : ErrT w.drew := h

/-- The slice of the keyed names, as the law itself holds it. -/
def KSt (W : World) (a1 : Option Addr) (ks : List Bool) (rb : Nat) : Prop := ks.length ≤ 4096 ∧ (ks ≠ [] → ∃ g, a1 = some ⟨g, 0, none⟩ ∧ StrsAt W g ks ∧ g < rb) ∧ rb < W.heap.size
theorem KSt.below {W W' : World} {a1 : Option Addr} {ks : List Bool} {rb : Nat} (h : KSt W a1 ks rb) (hb : Below W.heap.size W W') : KSt W' a1 ks rb :=
  ⟨h.1, fun hk => let ⟨g, e, hs, hg⟩ := h.2.1 hk; ⟨g, e, hs.below hb (by have := h.2.2; omega), hg⟩, Nat.lt_of_lt_of_le h.2.2 hb.size⟩
theorem KSt.alloc {W : World} {a1 : Option Addr} {ks : List Bool} {rb : Nat} (h : KSt W a1 ks rb) (o : Obj) : KSt (W.alloc o) a1 ks rb := h.below ((Below.refl _ _).alloc (Nat.le_refl _) _)
theorem KSt.drew {W : World} {a1 : Option Addr} {ks : List Bool} {rb : Nat} (h : KSt W a1 ks rb) : KSt W.drew a1 ks rb := h.below (Below.refl _ _).drew
theorem KSt.set {W : World} {a1 : Option Addr} {ks : List Bool} {rb : Nat} (h : KSt W a1 ks rb) (i : Nat) (u : Value) : KSt (W.setCell ⟨rb, i, none⟩ u) a1 ks rb :=
  ⟨h.1, fun hk => let ⟨g, e, hs, hg⟩ := h.2.1 hk; ⟨g, e, fun i hi => (set_other (.inl (by show g ≠ rb; omega))).trans (hs i hi), hg⟩, by simpa using h.2.2⟩
theorem KSt.calls {W : World} {a1 : Option Addr} {ks : List Bool} {rb c : Nat} (h : KSt W a1 ks rb) (x q : Bool) (hq : q = ks.contains x) :
    Calls Ybaf.prog 11 #[.slice a1 ks.length c, .string (nm x)] W fun e w' => e = .returned (.bool q) ∧ w' = W :=
  has_calls a1 c ks h.1 x q hq W (fun hk => let ⟨g, e, hs, _⟩ := h.2.1 hk; ⟨g, e, hs⟩)
theorem L1.toKS {w W V W6 : World} {len : Nat} {md : Nat → ZM} {a1 : Option Addr} {c1 : Nat} (h : L1 w W len len len md (.slice a1 (keysOf md len).length c1)) (hl : len ≤ 1024) (r : Value) (hb : Below W.heap.size W V)
    (hb6 : Below (V.alloc (.cells #[r, .int .i64 0] 45)).heap.size (V.alloc (.cells #[r, .int .i64 0] 45)) W6) (hs6 : (V.alloc (.cells #[r, .int .i64 0] 45)).heap.size < W6.heap.size) : KSt W6 a1 (keysOf md len) V.heap.size := by
  have kl := keysOf_len md len
  have hvs := hb.size
  have g1 : Below W.heap.size W W6 := (hb.alloc hb.size _).trans (hb6.mono (by simp; omega))
  obtain ⟨a0, c, e, hk⟩ := h.kv_form
  cases e
  refine ⟨by omega, fun hk' => ?_, by simp at hs6; omega⟩
  obtain ⟨g, e, hs, hg⟩ := hk hk'
  exact ⟨g, e, hs.below g1 hg, by omega⟩
end Go.Proofs.YbulkcegsFmt
