import Derived.Test.YbulkceiwFmtLeave
import Derived.Laws.MakeOwn
import Derived.Laws.IdiomCopy
import Derived.OwnWalk
import Derived.Laws.Tables
import Derived.Deep.RegionHeld
import Derived.Laws.StructEq
import Derived.LaidEql
namespace Go.Proofs.YbulkceiwFmt
open Go.RowKit
set_option linter.unusedVariables false

/-- One drawn frame. -/
structure FD where
  hf : Bool
  fn : ByteArray
  nx : Int
  en : Int
  ar : ByteArray
  av : ByteArray

def FD.zero : FD := ⟨false, ByteArray.empty, 0, 0, ByteArray.empty, ByteArray.empty⟩

theorem Ybaf.info32 : (Ybaf.prog.info? 32).map (fun i => (i.zero, i.size, i.bytes)) = some (some (.agg #[.pointer none, .int .i64 0, .int .i64 0, .string ByteArray.empty, .string ByteArray.empty]), 5, 56) := by kernel_rfl

/-- n zero frames. -/
def frz (n : Nat) : Array Value := madeCells #[.pointer none, .int .i64 0, .int .i64 0, .string ByteArray.empty, .string ByteArray.empty] (n * 5)

theorem frz_size (n : Nat) : (frz n).size = n * 5 := size_madeCells _ _
theorem frz_at (n i k : Nat) (hi : i < n) (hk : k < 5) : (frz n)[i * 5 + k]? = (#[Value.pointer none, .int .i64 0, .int .i64 0, .string ByteArray.empty, .string ByteArray.empty] : Array Value)[k]? := by
  have h : i * 5 + k < n * 5 := by omega
  have hm : (i * 5 + k) % 5 = k := by omega
  generalize i * 5 + k = x at h hm
  subst hm
  rcases (show x % 5 = 0 ∨ x % 5 = 1 ∨ x % 5 = 2 ∨ x % 5 = 3 ∨ x % 5 = 4 from by omega) with e | e | e | e | e <;> simp [frz, madeCells, h, e]

theorem make_frames (n : Nat) (hn : n ≤ 1024) (W : World) : (Instr.makeSlice 23 (.int .i64 (n : Int)) (.int .i64 (n : Int))).run Ybaf.prog W = .ok (.slice (some ⟨W.heap.size, 0, none⟩) n n) (W.alloc (.cells (frz n) 32)) := by
  obtain ⟨i, hi, hz, hs, hb⟩ := info_parts Ybaf.info32
  have h := run_make (P := Ybaf.prog) W 23 32 i _ Ybaf.underlying23 hi hz .i64 .i64 n n (by omega) (by omega) (by rw [hb]; omega) (by omega)
  rw [hs] at h
  simp only [Int.toNat_natCast] at h
  exact h

/-- Block B holds a row of N cells, all of which may be written. -/
def Row (W : World) (B N : Nat) : Prop := ∃ cur : Array Value, W.heap[B]? = some (.cells cur 32) ∧ cur.size = N

theorem Row.cell {W : World} {B N : Nat} (h : Row W B N) {o : Nat} (ho : o < N) : ∃ v, W.cell? ⟨B, o, none⟩ = some v := by
  obtain ⟨cur, hc, hs⟩ := h
  exact ⟨cur[o], by simp [World.cell?, hc, hs, ho]⟩
theorem Row.frozen {W : World} {B N : Nat} (h : Row W B N) (o : Nat) : W.frozen? ⟨B, o, none⟩ = false := by
  obtain ⟨cur, hc, hs⟩ := h
  simp [World.frozen?, hc]
theorem Row.lt {W : World} {B N : Nat} (h : Row W B N) : B < W.heap.size := by
  obtain ⟨cur, hc, hs⟩ := h
  exact (Array.getElem?_eq_some_iff.1 hc).1
theorem Row.of_block {W W' : World} {B N : Nat} (h : Row W B N) (e : W'.heap[B]? = W.heap[B]?) : Row W' B N := by
  obtain ⟨cur, hc, hs⟩ := h
  exact ⟨cur, e.trans hc, hs⟩
theorem Row.new (w : World) (cs : Array Value) : Row (w.alloc (.cells cs 32)) w.heap.size cs.size := ⟨cs, heap_alloc_new w _, rfl⟩
theorem Row.set {W : World} {B N : Nat} (h : Row W B N) (o : Nat) (v : Value) : Row (W.setCell ⟨B, o, none⟩ v) B N := by
  obtain ⟨cur, hc, hs⟩ := h
  refine ⟨cur.setIfInBounds o v, ?_, by simpa using hs⟩
  rw [setCell_eq_setRow W B o cur 32 (0, 0) v hc]
  exact setRow_heap W B cur _ 32 _ hc

/-- Frame i of the row in block B is the drawn frame d; a function of its own lies in a block from 'base' on. -/
structure FrAt (W : World) (base B i : Nat) (d : FD) : Prop where
  f0 : (d.hf = false ∧ W.cell? ⟨B, i * 5, none⟩ = some (.pointer none)) ∨
    (d.hf = true ∧ ∃ g, base ≤ g ∧ g < W.heap.size ∧ W.cell? ⟨B, i * 5, none⟩ = some (.pointer (some ⟨g, 0, none⟩)) ∧ W.cell? ⟨g, 0, none⟩ = some (.string d.fn))
  f1 : W.cell? ⟨B, i * 5 + 1, none⟩ = some (.int .i64 d.nx)
  f2 : W.cell? ⟨B, i * 5 + 2, none⟩ = some (.int .i64 d.en)
  f3 : W.cell? ⟨B, i * 5 + 3, none⟩ = some (.string d.ar)
  f4 : W.cell? ⟨B, i * 5 + 4, none⟩ = some (.string d.av)

/-- What reads the frame's five cells, and whatever lies from 'base' on, as it was keeps the frame. -/
theorem FrAt.kept {W W' : World} {base B i : Nat} {d : FD} (h : FrAt W base B i d) (hs : W.heap.size ≤ W'.heap.size)
    (hB : ∀ k, k < 5 → W'.cell? ⟨B, i * 5 + k, none⟩ = W.cell? ⟨B, i * 5 + k, none⟩) (hg : ∀ g, base ≤ g → g < W.heap.size → W'.cell? ⟨g, 0, none⟩ = W.cell? ⟨g, 0, none⟩) : FrAt W' base B i d := by
  refine ⟨?_, (hB 1 (by omega)).trans h.f1, (hB 2 (by omega)).trans h.f2, (hB 3 (by omega)).trans h.f3, (hB 4 (by omega)).trans h.f4⟩
  rcases h.f0 with ⟨h1, h2⟩ | ⟨h1, g, h2, h3, h4, h5⟩
  · exact .inl ⟨h1, (hB 0 (by omega)).trans h2⟩
  · exact .inr ⟨h1, g, h2, Nat.lt_of_lt_of_le h3 hs, (hB 0 (by omega)).trans h4, (hg g h2 h3).trans h5⟩

theorem FrAt.below {W W' : World} {base B i n : Nat} {d : FD} (h : FrAt W base B i d) (hb : Below n W W') (hn : W.heap.size ≤ n) (hB : B < n) : FrAt W' base B i d :=
  h.kept hb.size (fun k _ => hb.cell (p := ⟨B, i * 5 + k, none⟩) hB) (fun g _ hg => hb.cell (p := ⟨g, 0, none⟩) (Nat.lt_of_lt_of_le hg hn))

theorem FrAt.new (w : World) (n i : Nat) (hi : i < n) : FrAt (w.alloc (.cells (frz n) 32)) (w.heap.size + 1) w.heap.size i FD.zero := by
  have h : ∀ k, k < 5 → (w.alloc (.cells (frz n) 32)).cell? ⟨w.heap.size, i * 5 + k, none⟩ = (#[Value.pointer none, .int .i64 0, .int .i64 0, .string ByteArray.empty, .string ByteArray.empty] : Array Value)[k]? := by
    intro k hk
    rw [World.cell?_alloc_new, frz_at n i k hi hk]
  exact ⟨.inl ⟨rfl, h 0 (by omega)⟩, h 1 (by omega), h 2 (by omega), h 3 (by omega), h 4 (by omega)⟩

/-- Five stores into frame j of the row in block B. -/
def set5 (W : World) (B j : Nat) (p : Option Addr) (nx en : Int) (ar av : ByteArray) : World :=
  ((((W.setCell ⟨B, j * 5, none⟩ (.pointer p)).setCell ⟨B, j * 5 + 1, none⟩ (.int .i64 nx)).setCell ⟨B, j * 5 + 2, none⟩ (.int .i64 en)).setCell ⟨B, j * 5 + 3, none⟩ (.string ar)).setCell ⟨B, j * 5 + 4, none⟩ (.string av)

theorem set5_row {W : World} {B N : Nat} (h : Row W B N) (j : Nat) (p : Option Addr) (nx en : Int) (ar av : ByteArray) : Row (set5 W B j p nx en ar av) B N :=
  ((((h.set _ _).set _ _).set _ _).set _ _).set _ _
theorem set5_size (W : World) (B j : Nat) (p : Option Addr) (nx en : Int) (ar av : ByteArray) : (set5 W B j p nx en ar av).heap.size = W.heap.size := by simp [set5]
theorem set5_far (W : World) (B j : Nat) (p : Option Addr) (nx en : Int) (ar av : ByteArray) (b o : Nat) (hb : b ≠ B) : (set5 W B j p nx en ar av).cell? ⟨b, o, none⟩ = W.cell? ⟨b, o, none⟩ := by
  have hb' : B ≠ b := Ne.symm hb
  simp only [set5]
  rw [World.cell?_setCell_far _ _ _ _ hb', World.cell?_setCell_far _ _ _ _ hb', World.cell?_setCell_far _ _ _ _ hb', World.cell?_setCell_far _ _ _ _ hb', World.cell?_setCell_far _ _ _ _ hb']
theorem set5_other (W : World) (B j : Nat) (p : Option Addr) (nx en : Int) (ar av : ByteArray) (i k : Nat) (hi : i ≠ j) (hk : k < 5) : (set5 W B j p nx en ar av).cell? ⟨B, i * 5 + k, none⟩ = W.cell? ⟨B, i * 5 + k, none⟩ := by
  have e : ∀ k', k' < 5 → (⟨B, j * 5 + k', none⟩ : Addr) ≠ ⟨B, i * 5 + k, none⟩ := by
    intro k' hk' h
    simp only [Addr.mk.injEq, true_and, and_true] at h
    omega
  simp only [set5]
  rw [World.cell?_setCell_other _ _ _ _ (e 4 (by omega)), World.cell?_setCell_other _ _ _ _ (e 3 (by omega)), World.cell?_setCell_other _ _ _ _ (e 2 (by omega)), World.cell?_setCell_other _ _ _ _ (e 1 (by omega))]
  exact World.cell?_setCell_other _ _ _ _ (e 0 (by omega))
theorem set5_in {W : World} {B N : Nat} (h : Row W B N) (j : Nat) (hj : j * 5 + 4 < N) (p : Option Addr) (nx en : Int) (ar av : ByteArray) :
    (set5 W B j p nx en ar av).cell? ⟨B, j * 5, none⟩ = some (.pointer p) ∧ (set5 W B j p nx en ar av).cell? ⟨B, j * 5 + 1, none⟩ = some (.int .i64 nx) ∧ (set5 W B j p nx en ar av).cell? ⟨B, j * 5 + 2, none⟩ = some (.int .i64 en)
      ∧ (set5 W B j p nx en ar av).cell? ⟨B, j * 5 + 3, none⟩ = some (.string ar) ∧ (set5 W B j p nx en ar av).cell? ⟨B, j * 5 + 4, none⟩ = some (.string av) := by
  have e : ∀ k k', k ≠ k' → (⟨B, j * 5 + k, none⟩ : Addr) ≠ ⟨B, j * 5 + k', none⟩ := by
    intro k k' hk h
    simp only [Addr.mk.injEq, true_and, and_true] at h
    omega
  have e0 : ∀ k', 0 ≠ k' → (⟨B, j * 5, none⟩ : Addr) ≠ ⟨B, j * 5 + k', none⟩ := fun k' hk => e 0 k' hk
  have e0' : ∀ k', 0 ≠ k' → (⟨B, j * 5 + k', none⟩ : Addr) ≠ ⟨B, j * 5, none⟩ := fun k' hk => e k' 0 (Ne.symm hk)
  obtain ⟨v0, c0⟩ := h.cell (o := j * 5) (by omega)
  obtain ⟨v1, c1⟩ := (h.set (j * 5) (.pointer p)).cell (o := j * 5 + 1) (by omega)
  obtain ⟨v2, c2⟩ := ((h.set (j * 5) (.pointer p)).set (j * 5 + 1) (.int .i64 nx)).cell (o := j * 5 + 2) (by omega)
  obtain ⟨v3, c3⟩ := (((h.set (j * 5) (.pointer p)).set (j * 5 + 1) (.int .i64 nx)).set (j * 5 + 2) (.int .i64 en)).cell (o := j * 5 + 3) (by omega)
  obtain ⟨v4, c4⟩ := ((((h.set (j * 5) (.pointer p)).set (j * 5 + 1) (.int .i64 nx)).set (j * 5 + 2) (.int .i64 en)).set (j * 5 + 3) (.string ar)).cell (o := j * 5 + 4) (by omega)
  simp only [set5]
  refine ⟨?_, ?_, ?_, ?_, ?_⟩
  · rw [World.cell?_setCell_other _ _ _ _ (e0' 4 (by omega)), World.cell?_setCell_other _ _ _ _ (e0' 3 (by omega)), World.cell?_setCell_other _ _ _ _ (e0' 2 (by omega)), World.cell?_setCell_other _ _ _ _ (e0' 1 (by omega))]
    exact World.cell?_setCell_same _ _ _ c0
  · rw [World.cell?_setCell_other _ _ _ _ (e 4 1 (by omega)), World.cell?_setCell_other _ _ _ _ (e 3 1 (by omega)), World.cell?_setCell_other _ _ _ _ (e 2 1 (by omega))]
    exact World.cell?_setCell_same _ _ _ c1
  · rw [World.cell?_setCell_other _ _ _ _ (e 4 2 (by omega)), World.cell?_setCell_other _ _ _ _ (e 3 2 (by omega))]
    exact World.cell?_setCell_same _ _ _ c2
  · rw [World.cell?_setCell_other _ _ _ _ (e 4 3 (by omega))]
    exact World.cell?_setCell_same _ _ _ c3
  · exact World.cell?_setCell_same _ _ _ c4

/-- The frames after the j-th store: frame j is d, the others as they were. -/
theorem set5_other_fr {W : World} {base B i j : Nat} {d : FD} (h : FrAt W base B i d) (hi : i ≠ j) (hB : B < base) (p : Option Addr) (nx en : Int) (ar av : ByteArray) : FrAt (set5 W B j p nx en ar av) base B i d :=
  h.kept (by rw [set5_size]; exact Nat.le_refl _) (fun k hk => set5_other W B j p nx en ar av i k hi hk) (fun g hg _ => set5_far W B j p nx en ar av g 0 (by omega))
theorem set5_fr_none {W : World} {base B N j : Nat} (h : Row W B N) (hj : j * 5 + 4 < N) (d : FD) (hd : d.hf = false) : FrAt (set5 W B j none d.nx d.en d.ar d.av) base B j d := by
  obtain ⟨c0, c1, c2, c3, c4⟩ := set5_in h j hj none d.nx d.en d.ar d.av
  exact ⟨.inl ⟨hd, c0⟩, c1, c2, c3, c4⟩
theorem set5_fr_some {W : World} {base B N j g : Nat} (h : Row W B N) (hj : j * 5 + 4 < N) (d : FD) (hd : d.hf = true) (hB : B < base) (hg : base ≤ g) (hgs : g < W.heap.size) (hc : W.cell? ⟨g, 0, none⟩ = some (.string d.fn)) :
    FrAt (set5 W B j (some ⟨g, 0, none⟩) d.nx d.en d.ar d.av) base B j d := by
  obtain ⟨c0, c1, c2, c3, c4⟩ := set5_in h j hj (some ⟨g, 0, none⟩) d.nx d.en d.ar d.av
  exact ⟨.inr ⟨hd, g, hg, by rw [set5_size]; exact hgs, c0, (set5_far _ _ _ _ _ _ _ _ g 0 (by omega)).trans hc⟩, c1, c2, c3, c4⟩

/-- 'copy(orig, fs)': the whole row. -/
theorem copy_frames (W : World) (Bo Bf n : Nat) (co cf : Array Value) (ho : W.heap[Bo]? = some (.cells co 32)) (hf : W.heap[Bf]? = some (.cells cf 32)) (so : co.size = n * 5) (sf : cf.size = n * 5) (h1 : ∀ v ∈ cf.toList, v.oneCell' = true) :
    (Builtin.copy_ #[23, 23] 3 #[.slice (some ⟨Bo, 0, none⟩) n n, .slice (some ⟨Bf, 0, none⟩) n n]).run Ybaf.prog W = .ok (.int .i64 n) (W.setRow Bo cf) := by
  obtain ⟨i, hi, hz, hs, hb⟩ := info_parts Ybaf.info32
  have hl := run_loadCells_list (P := Ybaf.prog) W ⟨Bf, 0, none⟩ cf.toList (by
    intro j v hj
    rw [WideShapes.add_plain, Nat.zero_add]
    simpa [World.cell?, hf] using hj)
  have hst := run_storeCells_at Ybaf.prog Bo 0 32 cf.toList 0 co W ho (by simp [so, sf]) h1
  have e : (List.take (0 + 0) co.toList ++ cf.toList ++ List.drop (0 + 0 + cf.toList.length) co.toList).toArray = cf := by
    rw [List.drop_eq_nil_of_le (by simp [so, sf])]
    simp
  rw [e] at hst
  simp only [Array.length_toList, sf] at hl
  have hm : Nat.min n n = n := Nat.min_self n
  simp [Builtin.copy_, run_underlying Ybaf.underlying23, Builtin.lenOf, Builtin.firstCells, sizeOf, typeInfo, hi, hs, hm, hl, hst]
  rfl

theorem FrAt.one {W : World} {base B i k : Nat} {d : FD} (h : FrAt W base B i d) (hk : k < 5) {v : Value} (hv : W.cell? ⟨B, i * 5 + k, none⟩ = some v) : v.oneCell' = true := by
  rcases (show k = 0 ∨ k = 1 ∨ k = 2 ∨ k = 3 ∨ k = 4 from by omega) with rfl | rfl | rfl | rfl | rfl
  · rcases h.f0 with ⟨_, h2⟩ | ⟨_, g, _, _, h2, _⟩
    · rw [Nat.add_zero, h2] at hv; cases hv; rfl
    · rw [Nat.add_zero, h2] at hv; cases hv; rfl
  · rw [h.f1] at hv; cases hv; rfl
  · rw [h.f2] at hv; cases hv; rfl
  · rw [h.f3] at hv; cases hv; rfl
  · rw [h.f4] at hv; cases hv; rfl

/-- 'orig := make([]frame, n); copy(orig, fs)', told whole. -/
theorem copied (W : World) (base Bf n : Nat) (fd : Nat → FD) (hr : Row W Bf (n * 5)) (hfr : ∀ i, i < n → FrAt W base Bf i (fd i)) :
    ∃ W2, (Builtin.copy_ #[23, 23] 3 #[.slice (some ⟨W.heap.size, 0, none⟩) n n, .slice (some ⟨Bf, 0, none⟩) n n]).run Ybaf.prog (W.alloc (.cells (frz n) 32)) = .ok (.int .i64 n) W2
      ∧ Below W.heap.size W W2 ∧ W2.heap.size = W.heap.size + 1 ∧ ∀ o, W2.cell? ⟨W.heap.size, o, none⟩ = W.cell? ⟨Bf, o, none⟩ := by
  obtain ⟨cf, hf, sf⟩ := hr
  have hlt : Bf < W.heap.size := (Array.getElem?_eq_some_iff.1 hf).1
  have hf1 : (W.alloc (.cells (frz n) 32)).heap[Bf]? = some (.cells cf 32) := (Below.heap_alloc W _ Bf hlt).trans hf
  have ho := heap_alloc_new W (.cells (frz n) 32)
  have h1 : ∀ v ∈ cf.toList, v.oneCell' = true := by
    intro v hv
    obtain ⟨x, hx, rfl⟩ := List.mem_iff_getElem.1 hv
    have hx' : x < cf.size := by simpa using hx
    have hc : W.cell? ⟨Bf, x / 5 * 5 + x % 5, none⟩ = some cf[x] := by
      rw [show x / 5 * 5 + x % 5 = x from by omega]
      simp [World.cell?, hf, hx']
    have := (hfr (x / 5) (by omega)).one (k := x % 5) (by omega) hc
    simpa using this
  refine ⟨_, copy_frames _ _ _ n (frz n) cf ho hf1 (frz_size n) sf h1, ?_, by simp [World.setRow], ?_⟩
  · refine ⟨rfl, rfl, rfl, by simp [World.setRow], fun k hk => ?_⟩
    rw [setRow_other _ _ _ _ (by omega)]
    exact Below.heap_alloc W _ k hk
  · intro o
    rw [cell_setRow_same _ _ _ _ cf 32 (0, 0) ho]
    simp [World.cell?, hf]

theorem ptr_same (d : Nat) (p : Option Addr) (w : World) : (Op.equalIn (d + 2) 26 (.pointer p) (.pointer p)).run Ybaf.prog w = .ok true w := by
  obtain ⟨j, hj, _⟩ := Option.map_eq_some_iff.1 (show (Ybaf.prog.info? 30).map (fun _ => ()) = some () from by kernel_rfl)
  cases p with
  | none => simp [Op.equalIn, run_underlying Ybaf.underlying26]
  | some a => simp [Op.equalIn, run_underlying Ybaf.underlying26, sizeOf, typeInfo, hj, run_sameAddr_same]

theorem neq_same (p : Option Addr) (nx en : Int) (ar av : ByteArray) (w : World) :
    (binOp .neq 32 (.agg #[.pointer p, .int .i64 nx, .int .i64 en, .string ar, .string av]) (.agg #[.pointer p, .int .i64 nx, .int .i64 en, .string ar, .string av])).run Ybaf.prog w = .ok (.bool false) w := by
  rw [run_neq_struct, run_equalIn_agg w 9999 32 _ _ (by kernel_rfl) (by kernel_rfl)]
  have hp : ∀ d w, (Op.equalIn (d + 2) 26 (.pointer p) (.pointer p)).run Ybaf.prog w = .ok true w := fun d w => ptr_same d p w
  have h1 := hp 9997
  go_simp

/-- The law's memory between two rounds of its first loop: j frames are filled. -/
structure LSt (w wr : World) (n j : Nat) (fd : Nat → FD) : Prop where
  below : Below w.heap.size w wr
  row : Row wr w.heap.size (n * 5)
  done : ∀ i, i < j → FrAt wr (w.heap.size + 1) w.heap.size i (fd i)
  rest : ∀ i, j ≤ i → i < n → FrAt wr (w.heap.size + 1) w.heap.size i FD.zero

theorem LSt.start (w : World) (n : Nat) (fd : Nat → FD) : LSt w (w.alloc (.cells (frz n) 32)) n 0 fd :=
  ⟨(Below.refl _ _).alloc (Nat.le_refl _) _, by have := Row.new w (frz n); rwa [frz_size] at this, fun i hi => by omega, fun i _ hi => FrAt.new w n i hi⟩

theorem set5_below {w wr : World} {B j : Nat} (h : Below w.heap.size w wr) (hB : w.heap.size ≤ B) (p : Option Addr) (nx en : Int) (ar av : ByteArray) : Below w.heap.size w (set5 wr B j p nx en ar av) :=
  ((((h.setCell (p := ⟨B, j * 5, none⟩) hB _).setCell (p := ⟨B, j * 5 + 1, none⟩) hB _).setCell (p := ⟨B, j * 5 + 2, none⟩) hB _).setCell (p := ⟨B, j * 5 + 3, none⟩) hB _).setCell (p := ⟨B, j * 5 + 4, none⟩) hB _

theorem LSt.stepNil {w wr : World} {n j : Nat} {fd : Nat → FD} (h : LSt w wr n j fd) (hj : j < n) (hd : (fd j).hf = false) (o : Obj) :
    LSt w ((set5 wr w.heap.size j none (fd j).nx (fd j).en (fd j).ar (fd j).av).alloc o) n (j + 1) fd := by
  have hlt := h.row.lt
  have hb : Below wr.heap.size (set5 wr w.heap.size j none (fd j).nx (fd j).en (fd j).ar (fd j).av) ((set5 wr w.heap.size j none (fd j).nx (fd j).en (fd j).ar (fd j).av).alloc o) := (Below.refl _ _).alloc (by rw [set5_size]; exact Nat.le_refl _) _
  have hs := set5_size wr w.heap.size j none (fd j).nx (fd j).en (fd j).ar (fd j).av
  refine ⟨(set5_below h.below (Nat.le_refl _) _ _ _ _ _).trans (hb.mono (by omega)), (set5_row h.row _ _ _ _ _ _).of_block (hb.block _ hlt), ?_, ?_⟩
  · intro i hi
    refine FrAt.below ?_ hb (by omega) hlt
    by_cases e : i = j
    · subst e
      exact set5_fr_none h.row (by omega) _ hd
    · exact set5_other_fr (h.done i (by omega)) e (by omega) _ _ _ _ _
  · intro i hi hn
    exact FrAt.below (set5_other_fr (h.rest i (by omega) hn) (by omega) (by omega) _ _ _ _ _) hb (by omega) hlt

theorem LSt.stepFn {w wr : World} {n j : Nat} {fd : Nat → FD} (h : LSt w wr n j fd) (hj : j < n) (hd : (fd j).hf = true) (o : Obj) (v1 v2 v3 : Value) :
    LSt w (((set5 wr w.heap.size j (some ⟨wr.heap.size + 1, 0, none⟩) (fd j).nx (fd j).en (fd j).ar (fd j).av).alloc o).alloc (.cells #[.string (fd j).fn, v1, v2, v3] 30)) n (j + 1) fd := by
  have hlt := h.row.lt
  have hs := set5_size wr w.heap.size j (some ⟨wr.heap.size + 1, 0, none⟩) (fd j).nx (fd j).en (fd j).ar (fd j).av
  have hb : Below wr.heap.size (set5 wr w.heap.size j (some ⟨wr.heap.size + 1, 0, none⟩) (fd j).nx (fd j).en (fd j).ar (fd j).av) (((set5 wr w.heap.size j (some ⟨wr.heap.size + 1, 0, none⟩) (fd j).nx (fd j).en (fd j).ar (fd j).av).alloc o).alloc (.cells #[.string (fd j).fn, v1, v2, v3] 30)) :=
    ((Below.refl _ _).alloc (by rw [hs]; exact Nat.le_refl _) _).alloc (by simp; omega) _
  refine ⟨(set5_below h.below (Nat.le_refl _) _ _ _ _ _).trans (hb.mono (by omega)), (set5_row h.row _ _ _ _ _ _).of_block (hb.block _ hlt), ?_, ?_⟩
  · intro i hi
    by_cases e : i = j
    · subst e
      obtain ⟨c0, c1, c2, c3, c4⟩ := set5_in h.row i (by omega) (some ⟨wr.heap.size + 1, 0, none⟩) (fd i).nx (fd i).en (fd i).ar (fd i).av
      refine ⟨.inr ⟨hd, wr.heap.size + 1, by have := h.below.size; omega, by simp; omega, (hb.cell (p := ⟨w.heap.size, i * 5, none⟩) hlt).trans c0, ?_⟩, (hb.cell (p := ⟨w.heap.size, i * 5 + 1, none⟩) hlt).trans c1, (hb.cell (p := ⟨w.heap.size, i * 5 + 2, none⟩) hlt).trans c2, (hb.cell (p := ⟨w.heap.size, i * 5 + 3, none⟩) hlt).trans c3, (hb.cell (p := ⟨w.heap.size, i * 5 + 4, none⟩) hlt).trans c4⟩
      rw [World.cell?_alloc_at _ _ _ _ (by simp; omega)]
      rfl
    · exact FrAt.below (set5_other_fr (h.done i (by omega)) e (by omega) _ _ _ _ _) hb (by omega) hlt
  · intro i hi hn
    exact FrAt.below (set5_other_fr (h.rest i (by omega) hn) (by omega) (by omega) _ _ _ _ _) hb (by omega) hlt

end Go.Proofs.YbulkceiwFmt
