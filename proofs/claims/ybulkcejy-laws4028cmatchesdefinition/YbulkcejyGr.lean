import Derived.Test.YbulkcejyCI
import Derived.Test.YbulkcejyNew
namespace Go.Proofs.Ybulkcejy
open Go.RowKit
set_option linter.unusedVariables false

theorem made_list (z : Value) (N : Nat) : (madeCells #[z] N).toList = List.replicate N z := by
  apply List.ext_getElem?
  intro i
  simp [madeCells, List.getElem?_replicate]
  by_cases h : i < N
  · simp [h, Nat.mod_one]
  · simp [h]
def bd0 (N b0 b1 b4 b5 b6 : Nat) (unb : Int) : BD := { N := N, b0 := b0, b1 := b1, b4 := b4, b5 := b5, b6 := b6, sink := 0, unb := unb, tv := .slice none 0 0, rv := .slice none 0 0, ov := fun _ => .slice none 0 0, og := fun _ => [], to := [], room := [], xb := fun _ => none, xc := fun _ => [], xp := fun _ => 0 }
theorem NewAt.bx {W W' : World} {N b0 b1 b4 b5 b6 : Nat} {unb : Int} (h : NewAt W W' N unb b0 b1 b4 b5 b6) (hN : N ≤ 100) : BX W.heap.size W' (bd0 N b0 b1 b4 b5 b6 unb) := by
  obtain ⟨g0, g1, g4, g5, g6⟩ := h.ge
  obtain ⟨n1, n2, n3, n4, n5, n6, n7, n8, n9, n10⟩ := h.ne
  have hz : ∀ z, (madeCells #[z] N).size = N := fun z => size_madeCells _ _
  refine ⟨fun l => if l = 0 then some b0 else if l = 1 then some b1 else if l = 4 then some b4 else if l = 5 then some b5 else if l = 6 then some b6 else none,
    fun l => if l = 0 then bC (bd0 N b0 b1 b4 b5 b6 unb) else if l = 1 then List.replicate N (.slice none 0 0) else if l = 4 ∨ l = 5 ∨ l = 6 then List.replicate N (.int .i64 0) else [],
    fun l => if l = 0 then 11 else if l = 1 ∨ l = 4 ∨ l = 5 ∨ l = 6 then N else 0, ?_, h.bel.size, fun l hl => ?_, hN, rfl, rfl, rfl, rfl, rfl, rfl, ?_, fun u hu => ?_, ?_, rfl, ?_, rfl, ?_, ?_, ?_, ?_, rfl, ?_, rfl⟩
  · refine ⟨fun l b hb => ?_, fun l l' b h1 h2 => ?_⟩
    · by_cases e0 : l = 0
      · subst e0; cases hb; exact ⟨g0, _, h.h0, rfl, [], by simp [bC, bd0, iv]⟩
      by_cases e1 : l = 1
      · subst e1; cases hb; exact ⟨g1, _, h.h1, hz _, [], by rw [made_list]; simp⟩
      by_cases e4 : l = 4
      · subst e4; cases hb; exact ⟨g4, _, h.h4, hz _, [], by rw [made_list]; simp⟩
      by_cases e5 : l = 5
      · subst e5; cases hb; exact ⟨g5, _, h.h5, hz _, [], by rw [made_list]; simp⟩
      by_cases e6 : l = 6
      · subst e6; cases hb; exact ⟨g6, _, h.h6, hz _, [], by rw [made_list]; simp⟩
      simp only [e0, e1, e4, e5, e6, if_false] at hb
      cases hb
    · have key : ∀ l b, (if l = 0 then some b0 else if l = 1 then some b1 else if l = 4 then some b4 else if l = 5 then some b5 else if l = 6 then some b6 else none) = some b → (l = 0 ∧ b = b0) ∨ (l = 1 ∧ b = b1) ∨ (l = 4 ∧ b = b4) ∨ (l = 5 ∧ b = b5) ∨ (l = 6 ∧ b = b6) := by
        intro l b hb
        by_cases e0 : l = 0
        · subst e0; cases hb; omega
        by_cases e1 : l = 1
        · subst e1; cases hb; omega
        by_cases e4 : l = 4
        · subst e4; cases hb; omega
        by_cases e5 : l = 5
        · subst e5; cases hb; omega
        by_cases e6 : l = 6
        · subst e6; cases hb; omega
        simp only [e0, e1, e4, e5, e6, if_false] at hb
        cases hb
      have k1 := key l b h1
      have k2 := key l' b h2
      omega
  · refine ⟨?_, ?_, ?_⟩
    · rw [if_neg (by omega), if_neg (by omega), if_neg (by omega), if_neg (by omega), if_neg (by omega)]; rfl
    · rw [if_neg (by omega), if_neg (by omega), if_neg (by omega)]; rfl
    · rw [if_neg (by omega), if_neg (by omega)]; rfl
  · show List.replicate N _ = (List.range N).map _
    simp [bd0, List.map_const']
  · have hu' : u < N := hu
    refine ⟨⟨?_, .inl ⟨rfl, rfl, ?_⟩⟩, ?_⟩
    · dsimp only
      rw [if_neg (by omega), if_neg (by omega), if_neg (by omega)]; rfl
    · dsimp only
      rw [if_neg (by omega), if_neg (by omega), if_neg (by omega), if_neg (by omega), if_neg (by omega)]
    · skip
      rw [if_neg (by omega), if_neg (by omega), if_neg (by omega)]; rfl
  · exact ⟨rfl, .inl ⟨rfl, rfl, rfl⟩⟩
  · exact ⟨rfl, .inl ⟨rfl, rfl, rfl⟩⟩
  · show List.replicate N _ = (List.replicate N (0 : Int)).map iv
    simp [iv]
  · show List.replicate N _ = (List.replicate N (0 : Int)).map iv
    simp [iv]
  · show List.replicate N _ = (List.replicate N (0 : Int)).map iv
    simp [iv]
  · exact ⟨rfl, .inl ⟨rfl, rfl, rfl⟩⟩
  · exact ⟨rfl, .inl ⟨rfl, rfl, rfl⟩⟩
theorem CI.new (n : Nat) (ts : List (Nat × Nat)) (d : BD) (h1 : d.to = []) (h2 : d.room = []) (h3 : d.og = fun _ => []) : CI n ts d 0 :=
  ⟨by rw [h1]; rfl, by rw [h2]; rfl, rfl, fun a ha => absurd ha (by omega), fun a ha => absurd ha (by omega), fun u hu a ha => (by rw [h3] at ha; exact absurd ha (by simp)), fun a ha => absurd ha (by omega), fun u hu => by rw [h3]; simp⟩

/-- The graph, as the functions see it. -/
structure GraphAt (L : Nat) (W : World) (gb n : Nat) (ts : List (Nat × Nat)) (ua : Option Addr) (uc : Nat) (ta : Option Addr) (tb tc fb : Nat) : Prop where
  lt : gb < L ∧ tb < L ∧ fb < L
  u : W.cell? ⟨gb, 0, none⟩ = some (.slice ua n uc)
  t : W.cell? ⟨gb, 2, none⟩ = some (.slice ta ts.length tc)
  tk : ∀ k, k < ts.length → ta = some ⟨tb, 0, none⟩ ∧ W.cell? ⟨tb, k * 2, none⟩ = some (.int .i64 ((ts.getD k (0, 0)).1 : Int)) ∧ W.cell? ⟨tb, k * 2 + 1, none⟩ = some (.int .i64 ((ts.getD k (0, 0)).2 : Int))
  f : W.cell? ⟨gb, 4, none⟩ = some (.slice (some ⟨fb, 0, none⟩) n n)
  fk : ∀ x, x < n → ∃ ra rb rc, W.cell? ⟨fb, x, none⟩ = some (.slice ra (lst ts x).length rc) ∧ rb < L ∧ ∀ j, j < (lst ts x).length → ra = some ⟨rb, 0, none⟩ ∧ W.cell? ⟨rb, j, none⟩ = some (.int .i64 ((lst ts x).getD j 0 : Int))
theorem GraphAt.below {L : Nat} {W W' : World} {gb n : Nat} {ts : List (Nat × Nat)} {ua : Option Addr} {uc : Nat} {ta : Option Addr} {tb tc fb : Nat} (h : GraphAt L W gb n ts ua uc ta tb tc fb) (hb : Below L W W') : GraphAt L W' gb n ts ua uc ta tb tc fb := by
  obtain ⟨l1, l2, l3⟩ := h.lt
  refine ⟨h.lt, (hb.cell (p := ⟨gb, 0, none⟩) l1).trans h.u, (hb.cell (p := ⟨gb, 2, none⟩) l1).trans h.t, fun k hk => ⟨(h.tk k hk).1, (hb.cell (p := ⟨tb, k * 2, none⟩) l2).trans (h.tk k hk).2.1, (hb.cell (p := ⟨tb, k * 2 + 1, none⟩) l2).trans (h.tk k hk).2.2⟩, (hb.cell (p := ⟨gb, 4, none⟩) l1).trans h.f, fun x hx => ?_⟩
  obtain ⟨ra, rb, rc, q1, q2, q3⟩ := h.fk x hx
  exact ⟨ra, rb, rc, (hb.cell (p := ⟨fb, x, none⟩) l3).trans q1, q2, fun j hj => ⟨(q3 j hj).1, (hb.cell (p := ⟨rb, j, none⟩) q2).trans (q3 j hj).2⟩⟩
theorem newNetwork_calls' (N : Nat) (z unb : Int) (hz : z = (N : Int)) (W : World) (hN : N ≤ 100) : Calls Yba.prog 10 #[.int .i64 z, .int .i64 unb] W (NewOut W N unb) := by
  subst hz
  exact newNetwork_calls N unb W hN
theorem addArc_calls' (L : Nat) (d0 : BD) (W : World) (u v : Nat) (zu zv : Int) (cap0 : Int) (hzu : zu = (u : Int)) (hzv : zv = (v : Int)) (hb : BX L W d0) (hu : u < d0.N) (hv : v < d0.N) (hlen : d0.to.length ≤ 100000) (hrl : d0.room.length ≤ 100000) (hogl : ∀ w, w < d0.N → (d0.og w).length ≤ 100000) :
    Calls Yba.prog 11 #[.pointer (some ⟨d0.b0, 0, none⟩), .int .i64 zu, .int .i64 zv, .int .i64 cap0] W (ArcOut L d0 u v cap0 W) := by
  subst hzu
  subst hzv
  exact addArc_calls L d0 W u v cap0 hb hu hv hlen hrl hogl
end Go.Proofs.Ybulkcejy
