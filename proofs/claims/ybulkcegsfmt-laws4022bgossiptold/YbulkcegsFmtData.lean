import Derived.Test.YbulkcegsFmtLeaf2
namespace Go.Proofs.YbulkcegsFmt
open Go.RowKit Go.Extern.Stop Go.Stop Go.Extern
set_option linter.unusedVariables false

/-- Block g holds the message's bytes: the body xs, then the signature, whose last byte says whether it verifies. -/
def DataAt (w : World) (g : Nat) (xs : List Int) (ok : Bool) : Prop :=
  (∀ i, i < xs.length → w.cell? ⟨g, i, none⟩ = some (.int .u8 (xs.getD i 0))) ∧ w.cell? ⟨g, xs.length + 63, none⟩ = some (.int .u8 (if ok then 0 else 1)) ∧ g < w.heap.size
theorem DataAt.below {w w' : World} {g : Nat} {xs : List Int} {ok : Bool} (h : DataAt w g xs ok) {k : Nat} (hb : Below k w w') (hg : g < k) : DataAt w' g xs ok :=
  ⟨fun i hi => (hb.cell (p := ⟨g, i, none⟩) hg).trans (h.1 i hi), (hb.cell (p := ⟨g, xs.length + 63, none⟩) hg).trans h.2.1, Nat.lt_of_lt_of_le h.2.2 hb.size⟩
theorem DataAt.bytes {w : World} {g : Nat} {xs : List Int} {ok : Bool} (h : DataAt w g xs ok) (c : Nat) : BytesAt w (.slice (some ⟨g, 0, none⟩) xs.length c) xs :=
  ⟨_, c, rfl, by simp, fun i hi => ⟨g, 0, rfl, h.2.2, by rw [Nat.zero_add]; exact h.1 i hi⟩⟩

theorem cell_one_new' (w : World) (v : Value) (t : TypeId) : ∀ j u, [v][j]? = some u → (w.alloc (.cells #[v] t)).cell? ((⟨w.heap.size, 0, none⟩ : Addr).add j) = some u := by
  intro j u h
  rcases j with _ | j
  · cases h
    rw [show (⟨w.heap.size, 0, none⟩ : Addr).add 0 = ⟨w.heap.size, 0, none⟩ from rfl]
    go_simp
  · cases h

def datList (xs : List Int) (j : Nat) : List Value := xs.map (Value.int .u8) ++ List.replicate j (.int .u8 0)
theorem datList_succ (xs : List Int) (j : Nat) : datList xs (j + 1) = datList xs j ++ [.int .u8 0] := by
  simp [datList, List.replicate_succ', List.append_assoc]
theorem datList_len (xs : List Int) (j : Nat) : (datList xs j).length = xs.length + j := by simp [datList]

theorem DataAt.of_row {w : World} {base g c : Nat} {xs : List Int} {ok : Bool} {ys : List Value} (h : w.ownsRow base 5 1 (.slice (some ⟨g, 0, none⟩) (xs.length + 64) c) (xs.length + 64) ys)
    (hy : ys = if ok then datList xs 64 else (datList xs 64).set (xs.length + 63) (.int .u8 1)) : DataAt w g xs ok := by
  refine ⟨fun i hi => ?_, ?_, ?_⟩
  · rw [h.cellAt i (by omega), hy]
    cases ok
    · simp only [Bool.false_eq_true, if_false]
      rw [List.getElem?_set_ne (by omega), datList, List.getElem?_append_left (by simpa using hi)]
      simp [List.getD, List.getElem?_eq_getElem hi]
    · simp only [if_true]
      rw [datList, List.getElem?_append_left (by simpa using hi)]
      simp [List.getD, List.getElem?_eq_getElem hi]
  · rw [h.cellAt _ (by omega), hy]
    cases ok
    · simp only [Bool.false_eq_true, if_false]
      rw [List.getElem?_set_self (by rw [datList_len]; omega)]
    · simp only [if_true]
      rw [datList, List.getElem?_append_right (by simp)]
      simp
  · exact (h.lt g rfl).2

theorem int_oneCell (l : List Value) (h : ∀ u ∈ l, ∃ n, u = .int .u8 n) : ∀ u ∈ l, u.oneCell' = true := by
  intro u hu
  obtain ⟨n, rfl⟩ := h u hu
  rfl

set_option maxHeartbeats 4000000 in
theorem data_calls (v : Value) (xs : List Int) (ok : Bool) (w : World) (hv : BytesAt w v xs) (hl : xs.length ≤ 140737488351232) :
    Calls Ybaf.prog 7 #[v, .bool ok] w fun e w' => ∃ g, e = .returned (.slice (some ⟨g, 0, none⟩) (xs.length + 64) (xs.length + 64)) ∧ w.heap.size ≤ g ∧ DataAt w' g xs ok ∧ Below w.heap.size w w' := by
  obtain ⟨i, hi, hz, hs, hb⟩ := info_parts Ybaf.info5
  obtain ⟨a, cap, rfl, hn, hc⟩ := hv
  have hl0 : (xs.length : Int) ≤ 140737488351232 := by omega
  have hnn : a = none → xs.length = 0 ∧ cap = 0 := by
    intro e
    refine ⟨?_, hn e⟩
    rcases Nat.eq_zero_or_pos xs.length with h | h
    · exact h
    · obtain ⟨b, off, e', _⟩ := hc 0 h
      rw [e] at e'
      cases e'
  have hcc : ∀ w0 : World, w.grownBy w0 none → ∀ ad : Addr, a = some ad → ∀ (j : Nat) (u : Value), (xs.map (Value.int .u8))[j]? = some u → w0.cell? (ad.add j) = some u := by
    intro w0 hg ad e j u hu
    have hj : j < xs.length := by simpa using (List.getElem?_eq_some_iff.1 hu).1
    obtain ⟨b, off, e', hb', hc'⟩ := hc j hj
    rw [e] at e'; cases e'
    rw [Addr.add_lit]
    refine hg.cell ?_ (by simp)
    rw [hc', ← hu]
    simp [List.getD, List.getElem?_eq_getElem hj]
  clear hn hc
  go_enter Ybaf.func7, Ybaf.ntmps7
  go_wp2_with (first
    | (at_make; refine wpList_make_own _ rfl _ _ 27 rfl w.heap.size 5 i (.int .u8 0) 1 Ybaf.underlying27 hi hz hs .i64 .i64 _ (xs.length + 64) rfl rfl (by simp) (by rw [hb]; omega) (by unfold maxLen; omega) (Nat.le_refl _) ?_; intro w0 hown0 hgrow0)
    | (at_builtin; refine wpList_append_fits_any _ rfl _ _ 27 rfl w.heap.size 5 i 1 Ybaf.underlying27 hi hs w.heap.size 0 (xs.length + 64) [] rfl hown0 a xs.length cap (xs.map (Value.int .u8)) rfl (by simp) hnn (hcc w0 hgrow0) (int_oneCell _ (by simp)) (by omega) ?_; intro w1 hown1 hgrow1))
  have hb1 : Below w.heap.size w w1 := ((Below.refl _ _).grown hgrow0 (Nat.le_refl _) (by simp)).grown hgrow1 hgrow0.size (by simp)
  clear hgrow0 hgrow1 hown0 hcc hnn
  go_loopg [6, 5] 64 (fun gg s6 s5 wr => ∃ j, j + gg = 64 ∧ s6 = .int .i64 j ∧ s5 = .slice (some ⟨w.heap.size, 0, none⟩) (xs.length + j) (xs.length + 64) ∧ wr.ownsRow w.heap.size 5 1 (.slice (some ⟨w.heap.size, 0, none⟩) (xs.length + j) (xs.length + 64)) (xs.length + j) (datList xs j) ∧ Below w.heap.size w wr)
  case atStart => exact ⟨0, by omega, rfl, by simp, by simpa [datList] using hown1, hb1⟩
  case round =>
    clear hown1 hb1
    obtain ⟨j, hj, rfl, rfl, hown, hbw⟩ := hrel
    have hsz := hbw.size
    by_cases hg : j < 64
    · have hji : (j : Int) < 64 := by omega
      go_wp2_with (first
        | (at_builtin; refine wpList_append_fits _ rfl _ _ 27 rfl w.heap.size 5 i 1 Ybaf.underlying27 hi hs w.heap.size (xs.length + j) (xs.length + 64) (datList xs j) rfl (hown.alloc _) ⟨wr.heap.size, 0, none⟩ 1 1 [.int .u8 0] rfl rfl (cell_one_new' _ _ _) (int_oneCell _ (by simp)) (by omega) ?_; intro w3 hown3 hgrow3))
      go_roundg (gk - 1)
      case measure => omega
      case rel => exact ⟨j + 1, by omega, by go_num, rfl, by rw [datList_succ]; exact hown3, (hbw.alloc hsz _).grown hgrow3 (by simp; omega) (by simp)⟩
    · have ej : j = 64 := by omega
      subst ej
      cases ok
      · have hfr := hown.frozenAt (xs.length + 63)
        have hcl : wr.cell? ⟨w.heap.size, xs.length + 63, none⟩ = some (.int .u8 0) := by
          rw [hown.cellAt _ (by omega), datList, List.getElem?_append_right (by simp)]
          simp
        have hst := (hown.stored (xs.length + 63) (.int .u8 1)).1
        go_wp2_with fail
        go_ret
        exact ⟨_, rfl, Nat.le_refl _, DataAt.of_row hst rfl, hbw.setCell (p := ⟨w.heap.size, xs.length + 63, none⟩) (Nat.le_refl _) _⟩
      · go_wp2_with fail
        go_ret
        exact ⟨_, rfl, Nat.le_refl _, DataAt.of_row hown rfl, hbw⟩
end Go.Proofs.YbulkcegsFmt
