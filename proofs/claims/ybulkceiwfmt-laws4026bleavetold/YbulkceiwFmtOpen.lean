import Derived.Test.YbulkceiwFmtLawA
import Derived.Deep.Slices
import Derived.ChangeArms
import Derived.ProofKit
namespace Go.Proofs.YbulkceiwFmt
open Go.ChangeShapes Go.WideShapes Go.ChangeAt Go.RowKit Go.Deep
set_option linter.unusedVariables false

theorem Ybaf.cells25 : Ybaf.prog.cellsOf 25 = 6 := by kernel_rfl
theorem Ybaf.cells4 : Ybaf.prog.cellsOf 4 = 1 := by kernel_rfl
theorem Ybaf.cells9 : Ybaf.prog.cellsOf 9 = 1 := by kernel_rfl
theorem Ybaf.cells3 : Ybaf.prog.cellsOf 3 = 1 := by kernel_rfl

theorem one_of_take {cs : List Value} {o : Nat} {v : Value} (h : (cs.drop o).take 1 = [v]) : cs[o]? = some v := cell_of_cut h

theorem drawn_elem {H : Type} {enc : TypeId × Value → H} {W : World} {base n : Nat} {sp : Nat → Bool} {held : Bool} {cs : List Value} {x : DataW H × List MemPlace} (h : DataW.trod enc Ybaf.prog W base sp held n 25 cs = some x) :
    ∃ d : FD, cs = [.bool d.hf, .string d.fn, .int .i64 d.nx, .int .i64 d.en, .string d.ar, .string d.av] := by
  obtain ⟨xs, m, _, _, hl, hxl, hf⟩ := DataW.trod_struct Ybaf.underlying25 h
  rw [Ybaf.cells25] at hl
  have hx6 : xs.length = 6 := hxl
  have g : ∀ i, i < 6 → ∃ y, xs[i]? = some y := fun i hi => ⟨xs[i], List.getElem?_eq_getElem (by omega)⟩
  obtain ⟨y0, e0⟩ := g 0 (by omega)
  obtain ⟨y1, e1⟩ := g 1 (by omega)
  obtain ⟨y2, e2⟩ := g 2 (by omega)
  obtain ⟨y3, e3⟩ := g 3 (by omega)
  obtain ⟨y4, e4⟩ := g 4 (by omega)
  obtain ⟨y5, e5⟩ := g 5 (by omega)
  have h0 : DataW.trod enc Ybaf.prog W base sp held m 4 ((cs.drop 0).take (Ybaf.prog.cellsOf 4)) = some y0 := (hf 0 _ rfl).trans e0
  have h1 : DataW.trod enc Ybaf.prog W base sp held m 9 ((cs.drop 1).take (Ybaf.prog.cellsOf 9)) = some y1 := (hf 1 _ rfl).trans e1
  have h2 : DataW.trod enc Ybaf.prog W base sp held m 3 ((cs.drop 2).take (Ybaf.prog.cellsOf 3)) = some y2 := (hf 2 _ rfl).trans e2
  have h3 : DataW.trod enc Ybaf.prog W base sp held m 3 ((cs.drop 3).take (Ybaf.prog.cellsOf 3)) = some y3 := (hf 3 _ rfl).trans e3
  have h4 : DataW.trod enc Ybaf.prog W base sp held m 9 ((cs.drop 4).take (Ybaf.prog.cellsOf 9)) = some y4 := (hf 4 _ rfl).trans e4
  have h5 : DataW.trod enc Ybaf.prog W base sp held m 9 ((cs.drop 5).take (Ybaf.prog.cellsOf 9)) = some y5 := (hf 5 _ rfl).trans e5
  clear hf g e0 e1 e2 e3 e4 e5
  rw [Ybaf.cells4] at h0
  rw [Ybaf.cells9] at h1 h4 h5
  rw [Ybaf.cells3] at h2 h3
  obtain ⟨v0, c0, _⟩ := DataW.trod_bool Ybaf.underlying4 h0
  obtain ⟨v1, c1, _⟩ := DataW.trod_string Ybaf.underlying9 h1
  obtain ⟨v2, c2, _⟩ := DataW.trod_int Ybaf.underlying3 h2
  obtain ⟨v3, c3, _⟩ := DataW.trod_int Ybaf.underlying3 h3
  obtain ⟨v4, c4, _⟩ := DataW.trod_string Ybaf.underlying9 h4
  obtain ⟨v5, c5, _⟩ := DataW.trod_string Ybaf.underlying9 h5
  refine ⟨⟨v0, v1, v2, v3, v4, v5⟩, ?_⟩
  apply List.ext_getElem?
  intro i
  rcases (show i = 0 ∨ i = 1 ∨ i = 2 ∨ i = 3 ∨ i = 4 ∨ i = 5 ∨ 6 ≤ i from by omega) with rfl | rfl | rfl | rfl | rfl | rfl | hi
  · exact one_of_take c0
  · exact one_of_take c1
  · exact one_of_take c2
  · exact one_of_take c3
  · exact one_of_take c4
  · exact one_of_take c5
  · rw [List.getElem?_eq_none (by omega), List.getElem?_eq_none (by simpa using hi)]

theorem drawn_of {H : Type} {enc : TypeId × Value → H} {W : World} {base : Nat} {sp : Nat → Bool} {held : Bool} {v : Value} {d : DataW H} {p : List MemPlace} (h : DataW.Trod enc Ybaf.prog W base sp held 22 v d p) (a0 : Option Addr) (len cap : Nat) (hv : v = .slice a0 len cap) :
    ∃ fd : Nat → FD, Drawn W a0 len fd := by
  obtain ⟨fuel, hf⟩ := h
  rcases open_slice Ybaf.underlying22 hf with ⟨hcs, _⟩ | ⟨a, l, c, m, n, D, Pl, hcs, hb, hl, hm, hmm, _, hx⟩
  · subst hv
    simp [Value.cells] at hcs
    obtain ⟨rfl, rfl, rfl⟩ := hcs
    exact ⟨fun _ => FD.zero, fun j hj => by omega⟩
  · subst hv
    simp [Value.cells] at hcs
    obtain ⟨rfl, rfl, rfl⟩ := hcs
    have hlm : len ≤ m := by rw [hmm]; split <;> omega
    haveI : Inhabited FD := ⟨FD.zero⟩
    obtain ⟨fd, hfd⟩ := choose_lt (α := FD) (n := len) (p := fun i d => W.cells? base (a.add (i * 6)) 6 = some [.bool d.hf, .string d.fn, .int .i64 d.nx, .int .i64 d.en, .string d.ar, .string d.av]) (fun i hi => by
      obtain ⟨cs', h1, h2⟩ := hx i (by omega)
      rw [Ybaf.cells25] at h1
      obtain ⟨d, rfl⟩ := drawn_elem h2
      exact ⟨d, h1⟩)
    refine ⟨fd, fun j hj => ?_⟩
    obtain ⟨_, _, hc⟩ := World.cells?_some (hfd j hj)
    obtain ⟨b, off, spot⟩ := a
    have hspot : spot = none := by
      have h0 := World.cell?_spot (hc 0 (by omega))
      have h1 := World.cell?_spot (hc 1 (by omega))
      unfold Addr.add at h0
      by_cases e : j * 6 = 0
      · simpa [e] using h0
      · obtain ⟨_, _, hc0⟩ := World.cells?_some (hfd 0 (by omega))
        have h2 := World.cell?_spot (hc0 0 (by omega))
        simpa [Addr.add] using h2
    subst hspot
    have hk : ∀ k, k < 6 → W.cell? ⟨b, off + j * 6 + k, none⟩ = [Value.bool (fd j).hf, .string (fd j).fn, .int .i64 (fd j).nx, .int .i64 (fd j).en, .string (fd j).ar, .string (fd j).av][k]? := by
      intro k hk
      have := hc k hk
      rwa [add_plain, add_plain] at this
    exact ⟨b, off, rfl, hk 0 (by omega), hk 1 (by omega), hk 2 (by omega), hk 3 (by omega), hk 4 (by omega), hk 5 (by omega)⟩
end Go.Proofs.YbulkceiwFmt
