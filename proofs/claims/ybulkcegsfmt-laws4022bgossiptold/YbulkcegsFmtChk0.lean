import Derived.Test.YbulkcegsFmtWalk
namespace Go.Proofs.YbulkcegsFmt
open Go.RowKit Go.Shelf Go.Extern.Stop Go.Stop Go.Extern
set_option linter.unusedVariables false

def keysV (kb : Nat) : Value := .agg #[.func (.func 23) #[] #[.pointer (some ⟨kb, 0, none⟩)], .func (.func 24) #[] #[]]

/-- The state of check's own boxes: protocol, keys, result. -/
def CkSt (w W : World) (rb kb : Nat) : Prop := Below w.heap.size w W ∧ W.cell? ⟨w.heap.size, 0, none⟩ = some (.iface 43 (.pointer (some ⟨rb, 0, none⟩)))
  ∧ W.cell? ⟨w.heap.size + 1, 0, none⟩ = some (.func (.func 23) #[] #[.pointer (some ⟨kb, 0, none⟩)]) ∧ W.cell? ⟨w.heap.size + 1, 1, none⟩ = some (.func (.func 24) #[] #[])
  ∧ W.cell? ⟨w.heap.size + 1 + 1, 0, none⟩ = some .nilIface ∧ W.frozen? ⟨w.heap.size + 1 + 1, 0, none⟩ = false ∧ w.heap.size + 3 ≤ W.heap.size
theorem CkSt.below {w W W' : World} {rb kb n : Nat} (h : CkSt w W rb kb) (hb : Below n W W') (hn : w.heap.size + 3 ≤ n) : CkSt w W' rb kb := by
  obtain ⟨h0, h1, h2, h3, h4, h5, h6⟩ := h
  exact ⟨h0.trans (hb.mono (by omega)), (hb.cell (p := ⟨w.heap.size, 0, none⟩) (by show w.heap.size < n; omega)).trans h1, (hb.cell (p := ⟨w.heap.size + 1, 0, none⟩) (by show w.heap.size + 1 < n; omega)).trans h2,
    (hb.cell (p := ⟨w.heap.size + 1, 1, none⟩) (by show w.heap.size + 1 < n; omega)).trans h3, (hb.cell (p := ⟨w.heap.size + 1 + 1, 0, none⟩) (by show w.heap.size + 1 + 1 < n; omega)).trans h4,
    (hb.frozen (p := ⟨w.heap.size + 1 + 1, 0, none⟩) (by show w.heap.size + 1 + 1 < n; omega)).trans h5, Nat.le_trans h6 hb.size⟩
theorem CkSt.start (w : World) (rb kb : Nat) : CkSt w (((w.alloc (.cells #[.iface 43 (.pointer (some ⟨rb, 0, none⟩))] 70)).alloc (.cells #[.func (.func 23) #[] #[.pointer (some ⟨kb, 0, none⟩)], .func (.func 24) #[] #[]] 51)).alloc (.cells #[.nilIface] 38)) rb kb := by
  have t1 : w.heap.size < w.heap.size + 1 + 1 := by omega
  refine ⟨?_, by go_simp, by go_simp, by go_simp, by go_simp, by go_simp, by simp⟩
  repeat (first | exact Below.refl _ _ | apply Below.drew | refine Below.setCell ?_ (by simp) _ | refine Below.alloc ?_ (by first | omega | (simp <;> omega)) _)
theorem CkSt.alloc {w W : World} {rb kb : Nat} (h : CkSt w W rb kb) (o : Obj) : CkSt w (W.alloc o) rb kb := h.below ((Below.refl _ _).alloc (Nat.le_refl _) _) h.2.2.2.2.2.2
theorem CkSt.answers {F : Interp} {w W : World} {rb kb : Nat} (h : CkSt w W rb kb) (hF : F.answers w.tape) : F.answers W.tape := by rw [h.1.tape]; exact hF

set_option maxRecDepth 100000 in
set_option maxHeartbeats 4000000 in
theorem check0 (F : Interp) (a : Option Addr) (n c rb kb : Nat) (w : World) (hF : F.answers w.tape) (hn : n = 0 ∨ 3 ≤ n) (hn2 : n ≤ 4096) :
    Calls Ybaf.prog 9 #[.slice a n c, .iface 43 (.pointer (some ⟨rb, 0, none⟩)), keysV kb] w fun e w' => ∃ ad, e = .returned (.iface 66 (.pointer (some ad))) ∧ Below w.heap.size w w' := by
  unfold keysV
  have S0 := CkSt.start w rb kb
  go_enter Ybaf.func9, Ybaf.ntmps9
  go_wp2_with (first
    | (go_at_call 14; refine (kind0 a n c _ hn).mono ?_; rintro e w' ⟨rfl, rfl⟩)
    | (go_at_call 15; refine (efmt1 F (n : Int) _ _ (by exact hF) (by go_simp)).mono ?_; rintro e w' ⟨ad, rfl, hb⟩; have S1 := (S0.alloc _).below hb (by simp); have h1 := S1.2.2.2.2.1; have h2 := S1.2.2.2.2.2.1; clear hb S0))
  refine bodyPost_ret (v := .iface 66 (.pointer (some ad))) (by rw [results_cell1 rfl]; go_simp) rfl ?_
  exact ⟨_, rfl, S1.1.setCell (p := ⟨w.heap.size + 1 + 1, 0, none⟩) (by show w.heap.size ≤ w.heap.size + 1 + 1; omega) _⟩

/-- The keys that the ring holds. -/
def KeysAt (w : World) (kb : Nat) (ks : List Bool) : Prop := kb < w.heap.size ∧ ks.length ≤ 4096 ∧ ∃ a0 c, w.cell? ⟨kb, 0, none⟩ = some (.slice a0 ks.length c) ∧ (ks ≠ [] → ∃ g, a0 = some ⟨g, 0, none⟩ ∧ StrsAt w g ks ∧ g < w.heap.size)
theorem KeysAt.below {w w' : World} {kb : Nat} {ks : List Bool} (h : KeysAt w kb ks) (hb : Below w.heap.size w w') : KeysAt w' kb ks := by
  obtain ⟨h0, h1, a0, c, h2, h3⟩ := h
  refine ⟨Nat.lt_of_lt_of_le h0 hb.size, h1, a0, c, (hb.cell (p := ⟨kb, 0, none⟩) h0).trans h2, fun hk => ?_⟩
  obtain ⟨g, e, hs, hg⟩ := h3 hk
  exact ⟨g, e, hs.below hb hg, Nat.lt_of_lt_of_le hg hb.size⟩
theorem keyOf_K {kb : Nat} {ks : List Bool} (x : Bool) {w : World} (h : KeysAt w kb ks) :
    Calls Ybaf.prog 23 #[.string (nm x), .pointer (some ⟨kb, 0, none⟩)] w fun e w' => e = .returned (if ks.contains x then .slice (some ⟨w.heap.size, 0, none⟩) 32 32 else .slice none 0 0) ∧ Below w.heap.size w w' := by
  obtain ⟨h0, h1, a0, c, h2, h3⟩ := h
  exact keyOf_calls kb a0 c ks h1 x w h2 (fun hk => let ⟨g, e, hs, _⟩ := h3 hk; ⟨g, e, hs⟩)
theorem has_K {kb : Nat} {ks : List Bool} (x : Bool) (q0 : Bool) {w : World} {a0 : Option Addr} {c : Nat} (hl : ks.length ≤ 4096) (hq : q0 = ks.contains x) (h3 : ks ≠ [] → ∃ g, a0 = some ⟨g, 0, none⟩ ∧ StrsAt w g ks ∧ g < w.heap.size) :
    Calls Ybaf.prog 11 #[.slice a0 ks.length c, .string (nm x)] w fun e w' => e = .returned (.bool q0) ∧ w' = w :=
  has_calls a0 c ks hl x q0 hq w (fun hk => let ⟨g, e, hs, _⟩ := h3 hk; ⟨g, e, hs⟩)
end Go.Proofs.YbulkcegsFmt
