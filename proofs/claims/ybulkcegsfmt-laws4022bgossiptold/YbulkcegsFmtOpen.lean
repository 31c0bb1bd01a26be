import Derived.Test.YbulkcegsFmtLp
import Derived.Deep.Slices
import Derived.ChangeArms
import Derived.ProofKit
import Derived.SizedLaws
namespace Go.Proofs.YbulkcegsFmt
open Go.ChangeShapes Go.WideShapes Go.ChangeAt Go.RowKit Go.Deep
set_option linter.unusedVariables false

theorem Ybaf.cells29 : Ybaf.prog.cellsOf 29 = 6 := by kernel_rfl
theorem Ybaf.cells5 : Ybaf.prog.cellsOf 5 = 1 := by kernel_rfl
theorem Ybaf.cells26 : Ybaf.prog.cellsOf 26 = 1 := by kernel_rfl
theorem Ybaf.cells27 : Ybaf.prog.cellsOf 27 = 1 := by kernel_rfl
theorem Ybaf.cells4 : Ybaf.prog.cellsOf 4 = 1 := by kernel_rfl
theorem Ybaf.bytes5 : Ybaf.prog.bytesOf 5 = 1 := by kernel_rfl

theorem one_of_take {cs : List Value} {o : Nat} {v : Value} (h : (cs.drop o).take 1 = [v]) : cs[o]? = some v := cell_of_cut h

theorem weightsAll_mem {H : Type} {P : Program} {e : TypeId} : ∀ {ds : List (DataW H)} {d : DataW H}, d ∈ ds → ∀ n ∈ d.weights P e, n ∈ DataW.weightsAll P e ds
  | [], d, h, n, hn => by cases h
  | d0 :: ds, d, h, n, hn => by
    simp only [DataW.weightsAll, List.mem_append]
    rcases List.mem_cons.1 h with rfl | h
    · exact Or.inl hn
    · exact Or.inr (weightsAll_mem h n hn)

def ZM.zero : ZM := ⟨0, 0, 0, none, 0, [], false, false⟩

theorem body_of {H : Type} {enc : TypeId × Value → H} {W : World} {base n : Nat} {sp : Nat → Bool} {held : Bool} {cs : List Value} {x : DataW H × List MemPlace} (h : DataW.trod enc Ybaf.prog W base sp held n 27 cs = some x)
    (hw : ∀ k ∈ x.1.weights Ybaf.prog 27, k ≤ reachBytes) : ∃ va vc xs, cs = [.slice va xs.length vc] ∧ BytesAt W (.slice va xs.length vc) xs ∧ xs.length ≤ 140737488351232 := by
  rcases open_slice1 Ybaf.underlying27 Ybaf.cells5 h with ⟨hcs, _⟩ | ⟨a, len, cap, m, n', V, D, Pl, hcs, hb, hl, hm, hmm, hx, hc⟩
  · exact ⟨none, 0, [], hcs, ⟨none, 0, rfl, fun _ => rfl, fun i hi => by simp at hi⟩, by simp⟩
  · have hlm : len ≤ m := by rw [hmm]; split <;> omega
    obtain ⟨f, hf⟩ := choose_lt (α := Int) (n := len) (p := fun i d => V i = .int .u8 d) (fun i hi => by
      obtain ⟨_, h2⟩ := hc i (by omega)
      obtain ⟨k, e, _⟩ := DataW.trod_int Ybaf.underlying5 h2
      simp only [List.cons.injEq, and_true] at e
      exact ⟨k, e⟩)
    have hlen : ((List.range len).map f).length = len := by simp
    have hlr : len ≤ 140737488351232 := by
      have := hw ((len + (m - len)) * Ybaf.prog.bytesOf 5) (by rw [hx]; simp [DataW.weights, Ybaf.underlying27])
      rw [Ybaf.bytes5] at this
      unfold reachBytes at this
      omega
    refine ⟨some a, cap, (List.range len).map f, by rw [hlen]; exact hcs, ⟨some a, cap, rfl, (fun e => by cases e), fun i hi => ?_⟩, by rw [hlen]; exact hlr⟩
    rw [hlen] at hi
    obtain ⟨h1, _⟩ := hc i (by omega)
    obtain ⟨h0, _⟩ := hc 0 (by omega)
    obtain ⟨b, off, spot⟩ := a
    have hspot : spot = none := by
      have h2 := World.cell?_spot h0
      simpa [Addr.add] using h2
    subst hspot
    rw [add_plain] at h1
    refine ⟨b, off, rfl, World.block_lt_of_cell? W _ h1, ?_⟩
    rw [h1, hf i hi]
    simp [List.getD, List.getElem?_map, List.getElem?_range hi]

theorem wf_u64 {n : Int} (h : (Lit.int .u64 n).wf = true) : 0 ≤ n ∧ n < 18446744073709551616 := by
  simp [Lit.wf] at h
  have h1 : IntKind.u64.min = 0 := by decide
  have h2 : IntKind.u64.max = 18446744073709551615 := by decide
  rw [h1, h2] at h
  omega
theorem wf_u8 {n : Int} (h : (Lit.int .u8 n).wf = true) : 0 ≤ n ∧ n < 256 := by
  simp [Lit.wf] at h
  have h1 : IntKind.u8.min = 0 := by decide
  have h2 : IntKind.u8.max = 255 := by decide
  rw [h1, h2] at h
  omega

theorem elem_of {H : Type} {enc : TypeId × Value → H} {W : World} {base n : Nat} {sp : Nat → Bool} {held : Bool} {cs : List Value} {x : DataW H × List MemPlace} (h : DataW.trod enc Ybaf.prog W base sp held n 29 cs = some x)
    (hw : ∀ k ∈ x.1.weights Ybaf.prog 29, k ≤ reachBytes) :
    ∃ d : ZM, cs = [.int .u8 d.nd, .int .u8 d.pr, .int .u64 d.st, d.v, .bool d.ok, .bool d.hk] ∧ BytesAt W d.v d.xs ∧ d.xs.length ≤ 140737488351232 ∧ 0 ≤ d.st ∧ d.st < 18446744073709551616 := by
  obtain ⟨xs, m, _, hx, hl, hxl, hf⟩ := DataW.trod_struct Ybaf.underlying29 h
  rw [Ybaf.cells29] at hl
  have hx6 : xs.length = 6 := hxl
  have g : ∀ i, i < 6 → ∃ y, xs[i]? = some y := fun i hi => ⟨xs[i], List.getElem?_eq_getElem (by omega)⟩
  obtain ⟨y0, e0⟩ := g 0 (by omega)
  obtain ⟨y1, e1⟩ := g 1 (by omega)
  obtain ⟨y2, e2⟩ := g 2 (by omega)
  obtain ⟨y3, e3⟩ := g 3 (by omega)
  obtain ⟨y4, e4⟩ := g 4 (by omega)
  obtain ⟨y5, e5⟩ := g 5 (by omega)
  have h0 : DataW.trod enc Ybaf.prog W base sp held m 5 ((cs.drop 0).take (Ybaf.prog.cellsOf 5)) = some y0 := (hf 0 _ rfl).trans e0
  have h1 : DataW.trod enc Ybaf.prog W base sp held m 5 ((cs.drop 1).take (Ybaf.prog.cellsOf 5)) = some y1 := (hf 1 _ rfl).trans e1
  have h2 : DataW.trod enc Ybaf.prog W base sp held m 26 ((cs.drop 2).take (Ybaf.prog.cellsOf 26)) = some y2 := (hf 2 _ rfl).trans e2
  have h3 : DataW.trod enc Ybaf.prog W base sp held m 27 ((cs.drop 3).take (Ybaf.prog.cellsOf 27)) = some y3 := (hf 3 _ rfl).trans e3
  have h4 : DataW.trod enc Ybaf.prog W base sp held m 4 ((cs.drop 4).take (Ybaf.prog.cellsOf 4)) = some y4 := (hf 4 _ rfl).trans e4
  have h5 : DataW.trod enc Ybaf.prog W base sp held m 4 ((cs.drop 5).take (Ybaf.prog.cellsOf 4)) = some y5 := (hf 5 _ rfl).trans e5
  have hw3 : ∀ k ∈ y3.1.weights Ybaf.prog 27, k ≤ reachBytes := by
    intro k hk
    refine hw k ?_
    rw [hx]
    simp only [DataW.weights, Ybaf.underlying29]
    exact DataW.weights_mem_each (j := 3) (t := 27) (d := y3.1) rfl (by simp [e3]) k hk
  clear hf g
  rw [Ybaf.cells5] at h0 h1
  rw [Ybaf.cells26] at h2
  rw [Ybaf.cells27] at h3
  rw [Ybaf.cells4] at h4 h5
  obtain ⟨v0, c0, _⟩ := DataW.trod_int Ybaf.underlying5 h0
  obtain ⟨v1, c1, _⟩ := DataW.trod_int Ybaf.underlying5 h1
  obtain ⟨v2, c2, _, w2⟩ := DataW.trod_int Ybaf.underlying26 h2
  obtain ⟨va, vc, ys, c3, hb, hys⟩ := body_of h3 hw3
  obtain ⟨v4, c4, _⟩ := DataW.trod_bool Ybaf.underlying4 h4
  obtain ⟨v5, c5, _⟩ := DataW.trod_bool Ybaf.underlying4 h5
  refine ⟨⟨v0, v1, v2, va, vc, ys, v4, v5⟩, ?_, hb, hys, wf_u64 w2⟩
  apply List.ext_getElem?
  intro i
  rcases (show i = 0 ∨ i = 1 ∨ i = 2 ∨ i = 3 ∨ i = 4 ∨ i = 5 ∨ 6 ≤ i from by omega) with rfl | rfl | rfl | rfl | rfl | rfl | hi
  · exact one_of_take c0
  · exact one_of_take c1
  · exact one_of_take c2
  · exact one_of_take c3
  · exact one_of_take c4
  · exact one_of_take c5
  · rw [List.getElem?_eq_none (by omega), List.getElem?_eq_none (by simpa using hi)]

theorem in_of {H : Type} {enc : TypeId × Value → H} {W : World} {base fuel : Nat} {sp : Nat → Bool} {held : Bool} {x : DataW H × List MemPlace} {a0 : Option Addr} {len cap : Nat} (hf : DataW.trod enc Ybaf.prog W base sp held fuel 22 [.slice a0 len cap] = some x)
    (hw : ∀ k ∈ x.1.weights Ybaf.prog 22, k ≤ reachBytes) : ∃ md : Nat → ZM, InAt W a0 len md := by
  rcases open_slice Ybaf.underlying22 hf with ⟨hcs, _⟩ | ⟨a, l, c, m, n, D, Pl, hcs, hb, hl, hm, hmm, hx0, hx⟩
  · simp at hcs
    obtain ⟨rfl, rfl, rfl⟩ := hcs
    exact ⟨fun _ => ZM.zero, fun j hj => by omega⟩
  · simp at hcs
    obtain ⟨rfl, rfl, rfl⟩ := hcs
    have hlm : len ≤ m := by rw [hmm]; split <;> omega
    haveI : Inhabited ZM := ⟨ZM.zero⟩
    obtain ⟨md, hmd⟩ := choose_lt (α := ZM) (n := len) (p := fun i d => W.cells? base (a.add (i * 6)) 6 = some [.int .u8 d.nd, .int .u8 d.pr, .int .u64 d.st, d.v, .bool d.ok, .bool d.hk] ∧ BytesAt W d.v d.xs ∧ d.xs.length ≤ 140737488351232 ∧ 0 ≤ d.st ∧ d.st < 18446744073709551616) (fun i hi => by
      obtain ⟨cs', h1, h2⟩ := hx i (by omega)
      rw [Ybaf.cells29] at h1
      obtain ⟨d, rfl, hd⟩ := elem_of h2 (by
        intro k hk
        refine hw k ?_
        rw [hx0]
        simp only [DataW.weights, Ybaf.underlying22]
        exact List.mem_cons_of_mem _ (List.mem_append_left _ (weightsAll_mem (List.mem_map.2 ⟨i, List.mem_range.2 hi, rfl⟩) k hk)))
      exact ⟨d, h1, hd⟩)
    refine ⟨md, fun j hj => ?_⟩
    obtain ⟨hcc, hrest⟩ := hmd j hj
    obtain ⟨_, _, hc⟩ := World.cells?_some hcc
    obtain ⟨b, off, spot⟩ := a
    have hspot : spot = none := by
      obtain ⟨_, _, hc0⟩ := World.cells?_some (hmd 0 (by omega)).1
      have h2 := World.cell?_spot (hc0 0 (by omega))
      simpa [Addr.add] using h2
    subst hspot
    have hk : ∀ k, k < 6 → W.cell? ⟨b, off + j * 6 + k, none⟩ = [Value.int .u8 (md j).nd, .int .u8 (md j).pr, .int .u64 (md j).st, (md j).v, .bool (md j).ok, .bool (md j).hk][k]? := by
      intro k hk
      have := hc k hk
      rwa [add_plain, add_plain] at this
    exact ⟨b, off, rfl, hk 0 (by omega), hk 1 (by omega), hk 2 (by omega), hk 3 (by omega), hk 4 (by omega), hk 5 (by omega), hrest⟩
end Go.Proofs.YbulkcegsFmt
