import Derived.Test.YbulkceiwFmtPlain
namespace Go.Proofs.YbulkceiwFmt
open Go.RowKit
set_option linter.unusedVariables false

theorem abs_world {P : Program} {c : Code} {Q : Exit → Act → World → Prop} {a : Act} {W : World} (S : World → Prop) (h : S W) (k : ∀ W', S W' → Code.wp P c Q a W') : Code.wp P c Q a W := k W h

/-- The law's memory around the call of 'leave': the player in block P, its variables in block M, its frames in block Bf, their copy in block Bo, the top frame's own copy in block T. -/
structure ESt (w W : World) (P M Bf Bo T n L : Nat) (a b s : ByteArray) (d : FD) (p : Option Addr) : Prop where
  below : Below w.heap.size w W
  base : w.heap.size ≤ Bf
  oBf : Bf < Bo
  oM : Bo < M
  oP : M < P
  oT : P < T
  hT : T < W.heap.size
  map : MapAt W M (.map (ents a b s) 3)
  p1 : W.cell? ⟨P, 1, none⟩ = some (.map (some M))
  p5 : W.cell? ⟨P, 5, none⟩ = some (.slice (some ⟨Bf, 0, none⟩) L n)
  fz : W.frozen? ⟨P, 5, none⟩ = false
  t0 : W.cell? ⟨T, 0, none⟩ = some (.pointer p)
  t3 : W.cell? ⟨T, 3, none⟩ = some (.string d.ar)
  t4 : W.cell? ⟨T, 4, none⟩ = some (.string d.av)
  g0 : ∀ g, p = some ⟨g, 0, none⟩ → g < Bo ∧ W.cell? ⟨g, 0, none⟩ = some (.string d.fn)
  same : ∀ i, i < n → ∃ (q : Option Addr) (nx en : Int) (ar av : ByteArray), W.cell? ⟨Bf, i * 5, none⟩ = some (.pointer q) ∧ W.cell? ⟨Bf, i * 5 + 1, none⟩ = some (.int .i64 nx) ∧ W.cell? ⟨Bf, i * 5 + 2, none⟩ = some (.int .i64 en) ∧ W.cell? ⟨Bf, i * 5 + 3, none⟩ = some (.string ar) ∧ W.cell? ⟨Bf, i * 5 + 4, none⟩ = some (.string av)
    ∧ W.cell? ⟨Bo, i * 5, none⟩ = some (.pointer q) ∧ W.cell? ⟨Bo, i * 5 + 1, none⟩ = some (.int .i64 nx) ∧ W.cell? ⟨Bo, i * 5 + 2, none⟩ = some (.int .i64 en) ∧ W.cell? ⟨Bo, i * 5 + 3, none⟩ = some (.string ar) ∧ W.cell? ⟨Bo, i * 5 + 4, none⟩ = some (.string av)

theorem same_of {W W' : World} {Bf Bo n : Nat} (hf : ∀ o, W'.cell? ⟨Bf, o, none⟩ = W.cell? ⟨Bf, o, none⟩) (ho : ∀ o, W'.cell? ⟨Bo, o, none⟩ = W.cell? ⟨Bo, o, none⟩)
    (h : ∀ i, i < n → ∃ (q : Option Addr) (nx en : Int) (ar av : ByteArray), W.cell? ⟨Bf, i * 5, none⟩ = some (.pointer q) ∧ W.cell? ⟨Bf, i * 5 + 1, none⟩ = some (.int .i64 nx) ∧ W.cell? ⟨Bf, i * 5 + 2, none⟩ = some (.int .i64 en) ∧ W.cell? ⟨Bf, i * 5 + 3, none⟩ = some (.string ar) ∧ W.cell? ⟨Bf, i * 5 + 4, none⟩ = some (.string av)
      ∧ W.cell? ⟨Bo, i * 5, none⟩ = some (.pointer q) ∧ W.cell? ⟨Bo, i * 5 + 1, none⟩ = some (.int .i64 nx) ∧ W.cell? ⟨Bo, i * 5 + 2, none⟩ = some (.int .i64 en) ∧ W.cell? ⟨Bo, i * 5 + 3, none⟩ = some (.string ar) ∧ W.cell? ⟨Bo, i * 5 + 4, none⟩ = some (.string av)) :
    ∀ i, i < n → ∃ (q : Option Addr) (nx en : Int) (ar av : ByteArray), W'.cell? ⟨Bf, i * 5, none⟩ = some (.pointer q) ∧ W'.cell? ⟨Bf, i * 5 + 1, none⟩ = some (.int .i64 nx) ∧ W'.cell? ⟨Bf, i * 5 + 2, none⟩ = some (.int .i64 en) ∧ W'.cell? ⟨Bf, i * 5 + 3, none⟩ = some (.string ar) ∧ W'.cell? ⟨Bf, i * 5 + 4, none⟩ = some (.string av)
      ∧ W'.cell? ⟨Bo, i * 5, none⟩ = some (.pointer q) ∧ W'.cell? ⟨Bo, i * 5 + 1, none⟩ = some (.int .i64 nx) ∧ W'.cell? ⟨Bo, i * 5 + 2, none⟩ = some (.int .i64 en) ∧ W'.cell? ⟨Bo, i * 5 + 3, none⟩ = some (.string ar) ∧ W'.cell? ⟨Bo, i * 5 + 4, none⟩ = some (.string av) := by
  intro i hi
  obtain ⟨q, nx, en, ar, av, h0, h1, h2, h3, h4, k0, k1, k2, k3, k4⟩ := h i hi
  exact ⟨q, nx, en, ar, av, (hf _).trans h0, (hf _).trans h1, (hf _).trans h2, (hf _).trans h3, (hf _).trans h4, (ho _).trans k0, (ho _).trans k1, (ho _).trans k2, (ho _).trans k3, (ho _).trans k4⟩

theorem ESt.later {w W W' : World} {P M Bf Bo T n L : Nat} {a b s : ByteArray} {d : FD} {p : Option Addr} (h : ESt w W P M Bf Bo T n L a b s d p) (hb : Below W.heap.size W W') : ESt w W' P M Bf Bo T n L a b s d p := by
  have hT := h.hT; have o1 := h.oBf; have o2 := h.oM; have o3 := h.oP; have o4 := h.oT
  have c : ∀ B o, B < W.heap.size → W'.cell? ⟨B, o, none⟩ = W.cell? ⟨B, o, none⟩ := fun B o hB => hb.cell (p := ⟨B, o, none⟩) hB
  refine ⟨h.below.trans (hb.mono h.below.size), h.base, o1, o2, o3, o4, Nat.lt_of_lt_of_le hT hb.size, (hb.block M (by omega)).trans h.map, (c P 1 (by omega)).trans h.p1, (c P 5 (by omega)).trans h.p5, (hb.frozen (p := ⟨P, 5, none⟩) (by show P < _; omega)).trans h.fz, (c T 0 hT).trans h.t0, (c T 3 hT).trans h.t3, (c T 4 hT).trans h.t4, ?_, same_of (fun o => c Bf o (by omega)) (fun o => c Bo o (by omega)) h.same⟩
  intro g hg
  obtain ⟨h1, h2⟩ := h.g0 g hg
  exact ⟨h1, (c g 0 (by omega)).trans h2⟩

theorem ESt.ok {w W W' : World} {P M Bf Bo T n L m k : Nat} {a b s : ByteArray} {d : FD} {p : Option Addr} (h : ESt w W P M Bf Bo T n L a b s d p)
    (hw : W' = ((W.putObj M (.map (ents d.ar d.av s) 3)).setCell ⟨P, 5, none⟩ (.slice (some ⟨Bf, 0, none⟩) m n)).drewN k) : ESt w W' P M Bf Bo T n m d.ar d.av s d p := by
  have hT := h.hT; have o0 := h.base; have o1 := h.oBf; have o2 := h.oM; have o3 := h.oP; have o4 := h.oT
  subst hw
  have c : ∀ B o, B ≠ M → B ≠ P → (((W.putObj M (.map (ents d.ar d.av s) 3)).setCell ⟨P, 5, none⟩ (.slice (some ⟨Bf, 0, none⟩) m n)).drewN k).cell? ⟨B, o, none⟩ = W.cell? ⟨B, o, none⟩ := by
    intro B o h1 h2
    show ((W.putObj M (.map (ents d.ar d.av s) 3)).setCell ⟨P, 5, none⟩ (.slice (some ⟨Bf, 0, none⟩) m n)).cell? ⟨B, o, none⟩ = _
    rw [World.cell?_setCell_far _ _ _ _ (Ne.symm h2), cell_putObj h1]
  have hMs : M < W.heap.size := by omega
  refine ⟨?_, h.base, o1, o2, o3, o4, ?_, ?_, ?_, ?_, ?_, (c T 0 (by omega) (by omega)).trans h.t0, (c T 3 (by omega) (by omega)).trans h.t3, (c T 4 (by omega) (by omega)).trans h.t4, ?_, same_of (fun o => c Bf o (by omega) (by omega)) (fun o => c Bo o (by omega) (by omega)) h.same⟩
  · refine belowN (Below.setCell ?_ (p := ⟨P, 5, none⟩) (by show _ ≤ P; omega) _) _
    refine ⟨h.below.os, h.below.tape, h.below.output, by simpa using h.below.size, fun k hk => ?_⟩
    rw [World.putObj_heap_other (by omega)]
    exact h.below.block k hk
  · show T < ((W.putObj M (.map (ents d.ar d.av s) 3)).setCell ⟨P, 5, none⟩ (.slice (some ⟨Bf, 0, none⟩) m n)).heap.size
    simpa using hT
  · show ((W.putObj M (.map (ents d.ar d.av s) 3)).setCell ⟨P, 5, none⟩ (.slice (some ⟨Bf, 0, none⟩) m n)).heap[M]? = _
    rw [Below.heap_setCell _ _ _ _ (by show M ≠ P; omega)]
    exact World.putObj_heap_same hMs
  · show ((W.putObj M (.map (ents d.ar d.av s) 3)).setCell ⟨P, 5, none⟩ (.slice (some ⟨Bf, 0, none⟩) m n)).cell? ⟨P, 1, none⟩ = _
    rw [World.cell?_setCell_other _ _ _ _ (by simp), cell_putObj (by omega)]
    exact h.p1
  · show ((W.putObj M (.map (ents d.ar d.av s) 3)).setCell ⟨P, 5, none⟩ (.slice (some ⟨Bf, 0, none⟩) m n)).cell? ⟨P, 5, none⟩ = _
    exact World.cell?_setCell_same _ _ _ ((cell_putObj (by omega)).trans h.p5)
  · show ((W.putObj M (.map (ents d.ar d.av s) 3)).setCell ⟨P, 5, none⟩ (.slice (some ⟨Bf, 0, none⟩) m n)).frozen? ⟨P, 5, none⟩ = _
    rw [World.frozen?_setCell, frozen_putObj (by omega)]
    exact h.fz
  · intro g hg
    obtain ⟨h1, h2⟩ := h.g0 g hg
    exact ⟨h1, (c g 0 (by omega) (by omega)).trans h2⟩

theorem plr_size : Ybaf.zeroCells43.size = 73 := by kernel_rfl

/-- The player as the law's literal lays it, behind its map. -/
def plr (Z : Array Value) (W2 : World) (Bf n : Nat) (a b s : ByteArray) : World :=
  (W2.alloc (.map (ents a b s) 3)).alloc (.cells ((Z.setIfInBounds 1 (.map (some W2.heap.size))).setIfInBounds 5 (.slice (some ⟨Bf, 0, none⟩) n n)) 43)

theorem plr_below (Z : Array Value) (W2 : World) (Bf n : Nat) (a b s : ByteArray) : Below W2.heap.size W2 (plr Z W2 Bf n a b s) := ((Below.refl _ _).alloc (Nat.le_refl _) _).alloc (by simp) _
theorem plr_len (Z : Array Value) (W2 : World) (Bf n : Nat) (a b s : ByteArray) : (plr Z W2 Bf n a b s).heap.size = W2.heap.size + 1 + 1 := by simp [plr]

theorem ESt.make {Z : Array Value} (hZ : Z.size = 73) {w wr W2 : World} {m : Nat} {fd : Nat → FD} {a b s : ByteArray} {p : Option Addr} {nx en : Int} (hst : LSt w wr (m + 1) (m + 1) fd) (b2 : Below wr.heap.size wr W2) (z2 : W2.heap.size = wr.heap.size + 1)
    (c2 : ∀ o, W2.cell? ⟨wr.heap.size, o, none⟩ = wr.cell? ⟨w.heap.size, o, none⟩) (hp : wr.cell? ⟨w.heap.size, m * 5, none⟩ = some (.pointer p)) :
    ESt w ((plr Z W2 w.heap.size (m + 1) a b s).alloc (.cells #[.pointer p, .int .i64 nx, .int .i64 en, .string (fd m).ar, .string (fd m).av] 32)) (W2.heap.size + 1) W2.heap.size w.heap.size wr.heap.size (plr Z W2 w.heap.size (m + 1) a b s).heap.size (m + 1) (m + 1) a b s (fd m) p := by
  have hlt := hst.row.lt
  have e3 := plr_len Z W2 w.heap.size (m + 1) a b s
  have hb3 := plr_below Z W2 w.heap.size (m + 1) a b s
  have hb4 : Below (plr Z W2 w.heap.size (m + 1) a b s).heap.size (plr Z W2 w.heap.size (m + 1) a b s) ((plr Z W2 w.heap.size (m + 1) a b s).alloc (.cells #[.pointer p, .int .i64 nx, .int .i64 en, .string (fd m).ar, .string (fd m).av] 32)) := (Below.refl _ _).alloc (Nat.le_refl _) _
  have c : ∀ B o, B < W2.heap.size → ((plr Z W2 w.heap.size (m + 1) a b s).alloc (.cells #[.pointer p, .int .i64 nx, .int .i64 en, .string (fd m).ar, .string (fd m).av] 32)).cell? ⟨B, o, none⟩ = W2.cell? ⟨B, o, none⟩ := fun B o hB =>
    (hb4.cell (p := ⟨B, o, none⟩) (by show B < _; omega)).trans (hb3.cell (p := ⟨B, o, none⟩) hB)
  have cf : ∀ B o, B < wr.heap.size → W2.cell? ⟨B, o, none⟩ = wr.cell? ⟨B, o, none⟩ := fun B o hB => b2.cell (p := ⟨B, o, none⟩) hB
  have T : ∀ k, ((plr Z W2 w.heap.size (m + 1) a b s).alloc (.cells #[.pointer p, .int .i64 nx, .int .i64 en, .string (fd m).ar, .string (fd m).av] 32)).cell? ⟨(plr Z W2 w.heap.size (m + 1) a b s).heap.size, k, none⟩ = (#[.pointer p, .int .i64 nx, .int .i64 en, .string (fd m).ar, .string (fd m).av] : Array Value)[k]? := fun k => World.cell?_alloc_new _ _ _ _
  have hP : ∀ k, ((plr Z W2 w.heap.size (m + 1) a b s).alloc (.cells #[.pointer p, .int .i64 nx, .int .i64 en, .string (fd m).ar, .string (fd m).av] 32)).cell? ⟨W2.heap.size + 1, k, none⟩ = ((Z.setIfInBounds 1 (.map (some W2.heap.size))).setIfInBounds 5 (.slice (some ⟨w.heap.size, 0, none⟩) (m + 1) (m + 1)))[k]? := by
    intro k
    rw [hb4.cell (p := ⟨W2.heap.size + 1, k, none⟩) (by show W2.heap.size + 1 < _; omega)]
    unfold plr
    rw [World.cell?_alloc_at _ _ _ _ (by simp)]
  refine ⟨(hst.below.trans ((b2.mono hst.below.size).trans ((hb3.mono (by have := hst.below.size; omega)).trans (hb4.mono (by have := hst.below.size; omega))))), Nat.le_refl _, hlt, by omega, by omega, by omega, by simp, ?_, ?_, ?_, ?_, T 0, T 3, T 4, ?_, ?_⟩
  · show ((plr Z W2 w.heap.size (m + 1) a b s).alloc _).heap[W2.heap.size]? = _
    rw [hb4.block _ (by omega)]
    unfold plr
    rw [Below.heap_alloc _ _ _ (by simp)]
    exact heap_alloc_new _ _
  · rw [hP 1]
    simp [hZ]
  · rw [hP 5]
    simp [hZ]
  · rw [hb4.frozen (p := ⟨W2.heap.size + 1, 5, none⟩) (by show W2.heap.size + 1 < _; omega)]
    unfold plr
    rw [World.frozen?_alloc_at _ _ _ _ (by simp)]
  · intro g hg
    subst hg
    rcases (hst.done m (by omega)).f0 with ⟨_, h⟩ | ⟨_, g', h1, h2, h3, h4⟩
    · rw [hp] at h; cases h
    · rw [hp] at h3
      cases h3
      exact ⟨h2, (c g 0 (by omega)).trans ((cf g 0 h2).trans h4)⟩
  · intro i hi
    have hc0 : ∀ o, ((plr Z W2 w.heap.size (m + 1) a b s).alloc (.cells #[.pointer p, .int .i64 nx, .int .i64 en, .string (fd m).ar, .string (fd m).av] 32)).cell? ⟨w.heap.size, o, none⟩ = wr.cell? ⟨w.heap.size, o, none⟩ := fun o => (c _ o (by omega)).trans (cf _ o hlt)
    have hc1 : ∀ o, ((plr Z W2 w.heap.size (m + 1) a b s).alloc (.cells #[.pointer p, .int .i64 nx, .int .i64 en, .string (fd m).ar, .string (fd m).av] 32)).cell? ⟨wr.heap.size, o, none⟩ = wr.cell? ⟨w.heap.size, o, none⟩ := fun o => (c _ o (by omega)).trans (c2 o)
    have h := hst.done i hi
    rcases h.f0 with ⟨_, h0⟩ | ⟨_, g, _, _, h0, _⟩
    · exact ⟨none, _, _, _, _, (hc0 _).trans h0, (hc0 _).trans h.f1, (hc0 _).trans h.f2, (hc0 _).trans h.f3, (hc0 _).trans h.f4, (hc1 _).trans h0, (hc1 _).trans h.f1, (hc1 _).trans h.f2, (hc1 _).trans h.f3, (hc1 _).trans h.f4⟩
    · exact ⟨some ⟨g, 0, none⟩, _, _, _, _, (hc0 _).trans h0, (hc0 _).trans h.f1, (hc0 _).trans h.f2, (hc0 _).trans h.f3, (hc0 _).trans h.f4, (hc1 _).trans h0, (hc1 _).trans h.f1, (hc1 _).trans h.f2, (hc1 _).trans h.f3, (hc1 _).trans h.f4⟩

/-- The frames' own cells behind the law's further blocks. -/
theorem bf_cells {Z : Array Value} {w wr W2 : World} {m : Nat} {fd : Nat → FD} {a b s : ByteArray} (o4 : Obj) (hst : LSt w wr (m + 1) (m + 1) fd) (b2 : Below wr.heap.size wr W2) (z2 : W2.heap.size = wr.heap.size + 1) (o : Nat) :
    ((plr Z W2 w.heap.size (m + 1) a b s).alloc o4).cell? ⟨w.heap.size, o, none⟩ = wr.cell? ⟨w.heap.size, o, none⟩ := by
  have hlt := hst.row.lt
  have e3 := plr_len Z W2 w.heap.size (m + 1) a b s
  rw [World.cell?_alloc_lt _ _ ⟨w.heap.size, o, none⟩ (by show w.heap.size < _; omega), (plr_below Z W2 w.heap.size (m + 1) a b s).cell (p := ⟨w.heap.size, o, none⟩) (by show w.heap.size < _; omega)]
  exact b2.cell (p := ⟨w.heap.size, o, none⟩) hlt

theorem LSt.whole {w wr : World} (h : LSt w wr 1 0 (fun _ => FD.zero)) : LSt w wr 1 1 (fun _ => FD.zero) :=
  ⟨h.below, h.row, fun i hi => h.rest i (Nat.zero_le _) hi, fun i h1 h2 => by omega⟩
end Go.Proofs.YbulkceiwFmt
