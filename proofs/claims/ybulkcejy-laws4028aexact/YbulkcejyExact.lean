import Derived.Test.YbulkcejyProg
import Derived.WalkKit
import Derived.WalkSpells
import Derived.WalkLawsBesides
import Derived.Below
import Derived.Outline
import Derived.OwnWalk
import Derived.Lib.AppendStr
import Derived.Lib.SlBytesRow
namespace Go.Proofs.Ybulkcejy
open Go.RowKit Go.Lib
set_option linter.unusedVariables false

theorem Yba.infoB : (Yba.prog.info? 5).map (fun i => (i.zero, i.size, i.bytes)) = some (some (.int .u8 0), 1, 1) := by kernel_rfl

theorem within_empty (a1 : ByteArray) (w : World) :
    Calls Yba.prog 5 #[.string ByteArray.empty, .string a1] w fun e w' => e = .returned (.string a1) ∧ w = w' := by
  go_enter Yba.func5, Yba.ntmps5
  go_wp2
  go_ret
  exact ⟨rfl, rfl⟩

theorem within_some (a0 a1 : ByteArray) (w : World) (h : a0.toList.isEmpty = false) (h0 : a0.size ≤ 4096) (h1 : a1.size ≤ 4096) :
    Calls Yba.prog 5 #[.string a0, .string a1] w fun e w' => e = .returned (.string (a0 ++ ⟨#[58, 32]⟩ ++ a1)) ∧ w = w' := by
  have e1 : ¬ 9223372036854775807 < a0.size + 2 := by omega
  have e2 : ¬ 9223372036854775807 < a0.size + 2 + a1.size := by omega
  go_enter Yba.func5, Yba.ntmps5
  go_wp2
  go_ret
  exact ⟨rfl, rfl⟩

/-- A row of the call's own that holds a string's bytes is converted to that string. -/
theorem convert_own {w : World} {base n : Nat} {v : Value} {s : ByteArray} (h : w.ownsRow base 5 1 v n (strCells s)) :
    (convert 23 9 v).run Yba.prog w = .ok (.string s) w := by
  have hl := h.1
  rw [strCells_length, Nat.mul_one] at hl
  rcases h.2 with ⟨rfl, rfl⟩ | ⟨g, cap, cur, rfl, hb, hg, hnc, hcm, hcs, htake⟩
  · rw [run_convert_bytes_nil (P := Yba.prog) w 23 5 Yba.underlying23 Yba.underlying5 0 0 9 Yba.underlying9]
    congr 2
    apply ByteArray.ext
    exact (Array.eq_empty_of_size_eq_zero hl).symm
  · subst hl
    refine run_convert_whole (P := Yba.prog) w 23 5 9 Yba.underlying23 Yba.underlying5 Yba.underlying9 g 0 s ?_ cap
    intro i hi
    have hc := h.cells (g := g) rfl i (.int .u8 (s[i].toNat : Int)) (by
      simp only [strCells, List.getElem?_map]
      rw [Array.getElem?_toList, Array.getElem?_eq_getElem (by exact hi)]
      rfl)
    simpa [WideShapes.add_plain] using hc

theorem strCells_app (s t : ByteArray) : strCells (s ++ t) = strCells s ++ strCells t := by
  simp [strCells, ByteArray.data_append]

theorem strCells_sep : strCells (⟨#[58, 32]⟩ : ByteArray) = [.int .u8 58, .int .u8 32] := rfl

set_option maxHeartbeats 400000 in
theorem exact_empty (a1 : ByteArray) (w : World) (h1 : a1.size ≤ 4096) :
    Calls Yba.prog 3 #[.string ByteArray.empty, .string a1] w fun e w' => e = .returned (.bool true) ∧ Below w.heap.size w w' := by
  obtain ⟨i0, hi, hz0, hz1, hz2⟩ := info_parts Yba.infoB
  have h1' : (a1.size : Int) ≤ 4096 := by omega
  go_enter Yba.func3, Yba.ntmps3
  go_wp2_with (first
    | (go_at_call 5; refine (within_empty _ _).mono ?_; rintro e w' ⟨rfl, rfl⟩)
    | (at_builtin; refine wpList_append_own_string _ rfl _ _ 23 9 rfl w.heap.size 5 i0 Yba.underlying23 Yba.underlying9 hi hz0 hz1 hz2 (.slice none 0 0) 0 [] rfl (World.ownsRow_nil _ _ _ _) a1 rfl (by unfold maxLen; omega) (by omega) (Nat.le_refl _) ?_; intro v' w3 hown hgrow hnil; have hcv := convert_own (by simpa using hown); have hbel := (Below.refl w.heap.size w).grown hgrow (Nat.le_refl _) (by intro k hk; cases hk); clear hgrow hnil hown))
  go_ret
  exact ⟨by simp, hbel⟩

set_option maxHeartbeats 800000 in
theorem exact_some (a0 a1 : ByteArray) (w : World) (h : a0.toList.isEmpty = false) (hp : 0 < a0.size) (h0 : a0.size ≤ 4096) (h1 : a1.size ≤ 4096) :
    Calls Yba.prog 3 #[.string a0, .string a1] w fun e w' => e = .returned (.bool true) ∧ Below w.heap.size w w' := by
  obtain ⟨i0, hi, hz0, hz1, hz2⟩ := info_parts Yba.infoB
  have h0' : (a0.size : Int) ≤ 4096 := by omega
  have h1' : (a1.size : Int) ≤ 4096 := by omega
  have hp' : (0 : Int) < a0.size := by omega
  go_enter Yba.func3, Yba.ntmps3
  go_wp2_with (first
    | (go_at_call 5; refine (within_some _ _ _ h h0 h1).mono ?_; rintro e w' ⟨rfl, rfl⟩)
    | (at_builtin; refine wpList_append_own_string _ rfl _ _ 23 9 rfl w.heap.size 5 i0 Yba.underlying23 Yba.underlying9 hi hz0 hz1 hz2 (.slice none 0 0) 0 [] rfl (World.ownsRow_nil _ _ _ _) a0 rfl (by unfold maxLen; omega) (by omega) (Nat.le_refl _) ?_; intro v1 w1 hown1 hgrow1 hnil1; have hb1 : Below w.heap.size w w1 := (Below.refl w.heap.size w).grown hgrow1 (Nat.le_refl _) (by intro k hk; cases hk); have hl1 := hown1.lt; have hs1 := hb1.size; clear hgrow1 hnil1; simp only [Nat.zero_add, List.nil_append] at hown1)
    | (at_builtin; refine wpList_append_own _ rfl _ _ 23 rfl w.heap.size 5 i0 (.int .u8 0) 1 1 Yba.underlying23 hi hz0 hz1 hz2 rfl (by decide) v1 a0.size (strCells a0) rfl (hown1.alloc _) ⟨w1.heap.size, 0, none⟩ 2 2 [.int .u8 58, .int .u8 32] rfl rfl (cell_two_new _ _ _ _) (fun x hx => by simp at hx; rcases hx with rfl | rfl <;> rfl) (by unfold maxLen; omega) (by omega) (by simp; omega) ?_; intro v2 w2 hown2 hgrow2 hnil2; have hb2 : Below w.heap.size w w2 := (hb1.alloc hs1 _).grown hgrow2 (by simp; omega) (fun k hk => (hl1 k hk).1); have hl2 := hown2.lt; have hs2 := hb2.size; clear hgrow2 hnil2 hl1 hs1)
    | (at_builtin; refine wpList_append_own_string _ rfl _ _ 23 9 rfl w.heap.size 5 i0 Yba.underlying23 Yba.underlying9 hi hz0 hz1 hz2 v2 (a0.size + 2) _ rfl hown2 a1 rfl (by unfold maxLen; omega) (by omega) hs2 ?_; intro v3 w3 hown3 hgrow3 hnil3; have hb3 : Below w.heap.size w w3 := hb2.grown hgrow3 hs2 (fun k hk => (hl2 k hk).1); have hcv := convert_own (s := a0 ++ ⟨#[58, 32]⟩ ++ a1) (by rw [strCells_app, strCells_app, strCells_sep]; exact hown3); clear hgrow3 hnil3 hl2 hs2))
  go_ret
  exact ⟨by simp, hb3⟩

theorem walk (a0 a1 : ByteArray) (w : World) :
    Calls Yba.prog 3 #[.string a0, .string a1] w fun e w' => e = .returned (.bool true) ∧ Below w.heap.size w w' := by
  by_cases h0 : a0.size ≤ 4096
  · by_cases h1 : a1.size ≤ 4096
    · by_cases hp : 0 < a0.size
      · refine exact_some a0 a1 w ?_ hp h0 h1
        rw [Go.ByteArray.toList_eq, List.isEmpty_eq_false_iff]
        intro e
        have h2 : a0.data.toList.length = 0 := by rw [e]; rfl
        rw [Array.length_toList] at h2
        have h3 : a0.size = 0 := h2
        omega
      · have e : a0 = ByteArray.empty := by
          apply ByteArray.ext
          exact Array.eq_empty_of_size_eq_zero (by show a0.size = 0; omega)
        subst e
        exact exact_empty a1 w h1
    · have h0' : (a0.size : Int) ≤ 4096 := by omega
      have h1' : (4096 : Int) < a1.size := by omega
      go_enter Yba.func3, Yba.ntmps3
      go_wp2
      go_ret
      exact ⟨rfl, Below.refl _ _⟩
  · have h0' : (4096 : Int) < a0.size := by omega
    go_enter Yba.func3, Yba.ntmps3
    go_wp2
    go_ret
    exact ⟨rfl, Below.refl _ _⟩
end Go.Proofs.Ybulkcejy
