import Derived.Test.YbulkcegsFmtOpen
namespace Go.Proofs.YbulkcegsFmt
open Go.ChangeShapes Go.WideShapes Go.ChangeAt Go.RowKit Go.Deep
set_option linter.unusedVariables false

theorem Ybaf.cells58 : Ybaf.prog.cellsOf 58 = 4 := by kernel_rfl
theorem Ybaf.cells22 : Ybaf.prog.cellsOf 22 = 1 := by kernel_rfl

theorem gossip_of {H : Type} {enc : TypeId × Value → H} {W : World} {base n : Nat} {sp : Nat → Bool} {held : Bool} {cs : List Value} {x : DataW H × List MemPlace} (h : DataW.trod enc Ybaf.prog W base sp held n 58 cs = some x)
    (hw : ∀ k ∈ x.1.weights Ybaf.prog 58, k ≤ reachBytes) : ∃ gnd gok ghk a0 len cap, ∃ md : Nat → ZM, cs = [.int .u8 gnd, .bool gok, .bool ghk, .slice a0 len cap] ∧ InAt W a0 len md := by
  obtain ⟨xs, m, _, hx, hl, hxl, hf⟩ := DataW.trod_struct Ybaf.underlying58 h
  rw [Ybaf.cells58] at hl
  have hx4 : xs.length = 4 := hxl
  have g : ∀ i, i < 4 → ∃ y, xs[i]? = some y := fun i hi => ⟨xs[i], List.getElem?_eq_getElem (by omega)⟩
  obtain ⟨y0, e0⟩ := g 0 (by omega)
  obtain ⟨y1, e1⟩ := g 1 (by omega)
  obtain ⟨y2, e2⟩ := g 2 (by omega)
  obtain ⟨y3, e3⟩ := g 3 (by omega)
  have h0 : DataW.trod enc Ybaf.prog W base sp held m 5 ((cs.drop 0).take (Ybaf.prog.cellsOf 5)) = some y0 := (hf 0 _ rfl).trans e0
  have h1 : DataW.trod enc Ybaf.prog W base sp held m 4 ((cs.drop 1).take (Ybaf.prog.cellsOf 4)) = some y1 := (hf 1 _ rfl).trans e1
  have h2 : DataW.trod enc Ybaf.prog W base sp held m 4 ((cs.drop 2).take (Ybaf.prog.cellsOf 4)) = some y2 := (hf 2 _ rfl).trans e2
  have h3 : DataW.trod enc Ybaf.prog W base sp held m 22 ((cs.drop 3).take (Ybaf.prog.cellsOf 22)) = some y3 := (hf 3 _ rfl).trans e3
  have hw3 : ∀ k ∈ y3.1.weights Ybaf.prog 22, k ≤ reachBytes := by
    intro k hk
    refine hw k ?_
    rw [hx]
    simp only [DataW.weights, Ybaf.underlying58]
    exact DataW.weights_mem_each (j := 3) (t := 22) (d := y3.1) rfl (by simp [e3]) k hk
  clear hf g
  rw [Ybaf.cells5] at h0
  rw [Ybaf.cells4] at h1 h2
  rw [Ybaf.cells22] at h3
  obtain ⟨v0, c0, _⟩ := DataW.trod_int Ybaf.underlying5 h0
  obtain ⟨v1, c1, _⟩ := DataW.trod_bool Ybaf.underlying4 h1
  obtain ⟨v2, c2, _⟩ := DataW.trod_bool Ybaf.underlying4 h2
  obtain ⟨a0, len, cap, c3⟩ : ∃ a0 len cap, (cs.drop 3).take 1 = [.slice a0 len cap] := by
    rcases open_slice Ybaf.underlying22 h3 with ⟨hcs, _⟩ | ⟨a, l, c, _, _, _, _, hcs, _⟩
    · exact ⟨none, 0, 0, hcs⟩
    · exact ⟨some a, l, c, hcs⟩
  rw [c3] at h3
  obtain ⟨md, hmd⟩ := in_of h3 hw3
  refine ⟨v0, v1, v2, a0, len, cap, md, ?_, hmd⟩
  apply List.ext_getElem?
  intro i
  rcases (show i = 0 ∨ i = 1 ∨ i = 2 ∨ i = 3 ∨ 4 ≤ i from by omega) with rfl | rfl | rfl | rfl | hi
  · exact one_of_take c0
  · exact one_of_take c1
  · exact one_of_take c2
  · exact one_of_take c3
  · rw [List.getElem?_eq_none (by omega), List.getElem?_eq_none (by simpa using hi)]
end Go.Proofs.YbulkcegsFmt
