import Derived.Test.YbulkcejyLaw
import Derived.Deep.Slices
import Derived.ChangeArms
import Derived.ProofKit
import Derived.SizedLaws
namespace Go.Proofs.Ybulkcejy
open Go.ChangeShapes Go.WideShapes Go.ChangeAt Go.RowKit Go.Deep
set_option linter.unusedVariables false

theorem Yba.cells36 : Yba.prog.cellsOf 36 = 2 := by kernel_rfl
theorem Yba.cells5 : Yba.prog.cellsOf 5 = 1 := by kernel_rfl
theorem wf_u8 {n : Int} (h : (Lit.int .u8 n).wf = true) : 0 ≤ n ∧ n < 256 := by
  simp [Lit.wf] at h
  have h1 : IntKind.u8.min = 0 := by decide
  have h2 : IntKind.u8.max = 255 := by decide
  rw [h1, h2] at h
  omega
theorem elem_of {H : Type} {enc : TypeId × Value → H} {W : World} {base n : Nat} {sp : Nat → Bool} {held : Bool} {cs : List Value} {x : DataW H × List MemPlace} (h : DataW.trod enc Yba.prog W base sp held n 36 cs = some x) :
    ∃ d : Nat × Nat, cs = [.int .u8 (d.1 : Int), .int .u8 (d.2 : Int)] ∧ d.1 < 256 ∧ d.2 < 256 := by
  obtain ⟨xs, m, _, hx, hl, hxl, hf⟩ := DataW.trod_struct Yba.underlying36 h
  rw [Yba.cells36] at hl
  have hx2 : xs.length = 2 := hxl
  have g : ∀ i, i < 2 → ∃ y, xs[i]? = some y := fun i hi => ⟨xs[i], List.getElem?_eq_getElem (by omega)⟩
  obtain ⟨y0, e0⟩ := g 0 (by omega)
  obtain ⟨y1, e1⟩ := g 1 (by omega)
  have h0 : DataW.trod enc Yba.prog W base sp held m 5 ((cs.drop 0).take (Yba.prog.cellsOf 5)) = some y0 := (hf 0 _ rfl).trans e0
  have h1 : DataW.trod enc Yba.prog W base sp held m 5 ((cs.drop 1).take (Yba.prog.cellsOf 5)) = some y1 := (hf 1 _ rfl).trans e1
  clear hf g
  rw [Yba.cells5] at h0 h1
  obtain ⟨v0, c0, _, w0⟩ := DataW.trod_int Yba.underlying5 h0
  obtain ⟨v1, c1, _, w1⟩ := DataW.trod_int Yba.underlying5 h1
  have b0 := wf_u8 w0
  have b1 := wf_u8 w1
  refine ⟨(v0.toNat, v1.toNat), ?_, by omega, by omega⟩
  have q0 : ((v0.toNat : Nat) : Int) = v0 := by omega
  have q1 : ((v1.toNat : Nat) : Int) = v1 := by omega
  show cs = [.int .u8 ((v0.toNat : Nat) : Int), .int .u8 ((v1.toNat : Nat) : Int)]
  rw [q0, q1]
  apply List.ext_getElem?
  intro i
  rcases (show i = 0 ∨ i = 1 ∨ 2 ≤ i from by omega) with rfl | rfl | hi
  · exact cell_of_cut c0
  · exact cell_of_cut c1
  · rw [List.getElem?_eq_none (by omega), List.getElem?_eq_none (by simpa using hi)]
theorem in_of {H : Type} {enc : TypeId × Value → H} {W : World} {base fuel : Nat} {sp : Nat → Bool} {held : Bool} {x : DataW H × List MemPlace} {a0 : Option Addr} {len cap : Nat} (hf : DataW.trod enc Yba.prog W base sp held fuel 25 [.slice a0 len cap] = some x) :
    ∃ f g : Nat → Nat, TsAt W a0 len f g := by
  rcases open_slice Yba.underlying25 hf with ⟨hcs, _⟩ | ⟨a, l, c, m, n, D, Pl, hcs, hb, hl, hm, hmm, hx0, hx⟩
  · simp at hcs
    obtain ⟨rfl, rfl, rfl⟩ := hcs
    exact ⟨fun _ => 0, fun _ => 0, fun j hj => by omega⟩
  · simp at hcs
    obtain ⟨rfl, rfl, rfl⟩ := hcs
    have hlm : len ≤ m := by rw [hmm]; split <;> omega
    obtain ⟨md, hmd⟩ := choose_lt (α := Nat × Nat) (n := len) (p := fun i d => W.cells? base (a.add (i * 2)) 2 = some [.int .u8 (d.1 : Int), .int .u8 (d.2 : Int)] ∧ d.1 < 256 ∧ d.2 < 256) (fun i hi => by
      obtain ⟨cs', h1, h2⟩ := hx i (by omega)
      rw [Yba.cells36] at h1
      obtain ⟨d, rfl, hd⟩ := elem_of h2
      exact ⟨d, h1, hd⟩)
    refine ⟨fun j => (md j).1, fun j => (md j).2, fun j hj => ?_⟩
    obtain ⟨hcc, hrest⟩ := hmd j hj
    obtain ⟨_, _, hc⟩ := World.cells?_some hcc
    obtain ⟨b, off, spot⟩ := a
    have hspot : spot = none := by
      obtain ⟨_, _, hc0⟩ := World.cells?_some (hmd 0 (by omega)).1
      have h2 := World.cell?_spot (hc0 0 (by omega))
      simpa [Addr.add] using h2
    subst hspot
    have hk : ∀ k, k < 2 → W.cell? ⟨b, off + j * 2 + k, none⟩ = [Value.int .u8 ((md j).1 : Int), .int .u8 ((md j).2 : Int)][k]? := by
      intro k hk
      have := hc k hk
      rwa [add_plain, add_plain] at this
    exact ⟨b, off, rfl, hk 0 (by omega), hk 1 (by omega), hrest⟩
end Go.Proofs.Ybulkcejy
