import Derived.Test.YbulkcegsFmtLp
namespace Go.Proofs.YbulkcegsFmt
open Go.RowKit Go.Shelf Go.Extern.Stop Go.Stop Go.Extern
set_option linter.unusedVariables false

theorem Ybaf.info36 : (Ybaf.prog.info? 36).map (fun i => (i.zero, i.size, i.bytes)) = some (some .nilIface, 1, 16) := by kernel_rfl
theorem Ybaf.info9 : (Ybaf.prog.info? 9).map (fun i => (i.zero, i.size, i.bytes)) = some (some (.string ⟨#[]⟩), 1, 16) := by kernel_rfl

theorem cell_one_new2 {W : World} {n : Nat} (h : W.heap.size = n) (v : Value) (t : TypeId) : ∀ j u, [v][j]? = some u → (W.alloc (.cells #[v] t)).cell? ((⟨n, 0, none⟩ : Addr).add j) = some u := by
  subst h
  exact cell_one_new' W v t

/-- The state as the law calls check. -/
structure C6 (w W : World) (rb kb : Nat) (r : Value) (len : Nat) (md : Nat → ZM) : Prop where
  below : Below w.heap.size w W
  c0 : W.cell? ⟨rb, 0, none⟩ = some r
  c1 : W.cell? ⟨rb, 1, none⟩ = some (.int .i64 0)
  cf : W.frozen? ⟨rb, 1, none⟩ = false
  msgs : ∀ i, i < len → ∃ b, MsgAt W w.heap.size i (md i).x (md i).p (md i).s b ((md i).xs.length + 64) ∧ DataAt W b (md i).xs (md i).ok
  keys : KeysAt W kb (keysOf md len)
  lt : w.heap.size < W.heap.size
  rge : w.heap.size ≤ rb
  rlt : rb < W.heap.size

theorem L1.toC6 {w W V W6 : World} {len : Nat} {md : Nat → ZM} {a1 : Option Addr} {c1 : Nat} (h : L1 w W len len len md (.slice a1 (keysOf md len).length c1)) (hl : len ≤ 1024) (r : Value) (hb : Below W.heap.size W V)
    (hb6 : Below (V.alloc (.cells #[r, .int .i64 0] 45)).heap.size (V.alloc (.cells #[r, .int .i64 0] 45)) W6)
    (hk6 : W6.cell? ⟨(V.alloc (.cells #[r, .int .i64 0] 45)).heap.size, 0, none⟩ = some (.slice a1 (keysOf md len).length c1)) (hs6 : (V.alloc (.cells #[r, .int .i64 0] 45)).heap.size < W6.heap.size) :
    C6 w W6 V.heap.size (V.heap.size + 1) r len md := by
  have g1 : Below W.heap.size W W6 := (hb.alloc hb.size _).trans (hb6.mono (by have := hb.size; simp; omega))
  have h6 := h.grow g1
  have hlt := h.lt
  have hvs := hb.size
  simp only [World.size_alloc] at hb6 hk6 hs6
  obtain ⟨a0, c, e, hk⟩ := h6.kv_form
  cases e
  have kl := keysOf_len md len
  refine ⟨h6.below, (hb6.cell (p := ⟨V.heap.size, 0, none⟩) (by show V.heap.size < _; omega)).trans (by go_simp), (hb6.cell (p := ⟨V.heap.size, 1, none⟩) (by show V.heap.size < _; omega)).trans (by go_simp), (hb6.frozen (p := ⟨V.heap.size, 1, none⟩) (by show V.heap.size < _; omega)).trans (by go_simp), fun i hi => ?_, ⟨by omega, by omega, _, _, hk6, hk⟩, by omega, by omega, by omega⟩
  obtain ⟨b, hm, hd, _, _⟩ := h6.done i hi
  exact ⟨b, hm, hd⟩
/-- What a call that leaves the old blocks as they were leaves of that state, for the law's tail. -/
theorem C6.tail {w W W7 : World} {rb kb : Nat} {r : Value} {len : Nat} {md : Nat → ZM} (h : C6 w W rb kb r len md) (hb : Below W.heap.size W W7) : W7.cell? ⟨rb, 1, none⟩ = some (.int .i64 0) ∧ Below w.heap.size w W7 ∧ rb < W7.heap.size :=
  ⟨(hb.cell (p := ⟨rb, 1, none⟩) h.rlt).trans h.c1, h.below.trans (hb.mono (by have := h.lt; omega)), Nat.lt_of_lt_of_le h.rlt hb.size⟩
theorem C6.tail1 {w W W7 : World} {rb kb : Nat} {r : Value} {len : Nat} {md : Nat → ZM} (h : C6 w W rb kb r len md) (hb : Below W.heap.size (W.setCell ⟨rb, 1, none⟩ (.int .i64 1)) W7) : W7.cell? ⟨rb, 1, none⟩ = some (.int .i64 1) ∧ Below w.heap.size w W7 ∧ rb < W7.heap.size := by
  refine ⟨(hb.cell (p := ⟨rb, 1, none⟩) h.rlt).trans (World.cell?_setCell_same' _ _ _ (by rw [h.c1]; rfl)), (h.below.setCell (p := ⟨rb, 1, none⟩) h.rge _).trans (hb.mono (by have := h.lt; omega)), ?_⟩
  have := hb.size
  have := h.rlt
  simp at *
  omega
theorem C6.answers {F : Interp} {w W : World} {rb kb : Nat} {r : Value} {len : Nat} {md : Nat → ZM} (h : C6 w W rb kb r len md) (hF : F.answers w.tape) : F.answers W.tape := by rw [h.below.tape]; exact hF
end Go.Proofs.YbulkcegsFmt
