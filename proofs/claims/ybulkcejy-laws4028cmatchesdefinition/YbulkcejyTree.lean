import Derived.Test.YbulkcejyRes
namespace Go.Proofs.Ybulkcejy
set_option linter.unusedVariables false

/-- What measure leaves when it has come to the sink: each node that it saw was found from another. -/
def Tree (c : Net) (v : NV) (x : Nat) : Prop := ∀ u, u < c.N → sn v u = v.mark → u ≠ x → ∃ p i, p < c.N ∧ sn v p = v.mark ∧ i < (c.og p).length ∧ tt c (arc c p i) = u ∧ rm v (arc c p i) ≠ 0 ∧ lv v u = lv v p + 1
/-- The first search behind measure sends something. -/
theorem first_sends {c : Net} {v v' : NV} {x k : Nat} {most : Int} (hl : LB c v) (ht : Tree c v x) (hsk : c.sink < c.N) (hss : sn v c.sink = v.mark) (h0 : ∀ w, w < c.N → w ≠ c.sink → sn v w = v.mark → nx v w = 0) (hp : AugPost c v x k most 0 v') : False := by
  have hE : EE c v := fun w hw hws hsw i _ hin => by
    rw [h0 w hw hws hsw] at hin
    omega
  obtain ⟨hE', hxs, hxn⟩ := hp.dfs hE rfl
  have er : ∀ a, rm v' a = rm v a := fun a => by unfold rm; rw [(hp.zero rfl).1]
  have es : ∀ w, sn v' w = sn v w := fun w => by unfold sn; rw [hp.seen]
  have el : ∀ w, lv v' w = lv v w := fun w => by unfold lv; rw [hp.level]
  have key : ∀ d : Nat, ∀ u, u < c.N → sn v u = v.mark → lv v u ≤ d → u ≠ c.sink ∧ nx v' u = (c.og u).length := by
    intro d
    induction d with
    | zero =>
      intro u hu hsu hd
      by_cases hux : u = x
      · subst hux
        exact ⟨hxs, hxn⟩
      · obtain ⟨p, i, hpN, hps, _, _, _, hlv⟩ := ht u hu hsu hux
        have := (hl p hpN hps).1
        omega
    | succ d ih =>
      intro u hu hsu hd
      by_cases hux : u = x
      · subst hux
        exact ⟨hxs, hxn⟩
      · obtain ⟨p, i, hpN, hps, hi, htt, hrm, hlv⟩ := ht u hu hsu hux
        obtain ⟨q1, q2⟩ := ih p hpN hps (by omega)
        rcases hE' p hpN q1 (by rw [es, hp.mark]; exact hps) i hi (by rw [q2]; omega) with q | ⟨q3, q4⟩
        · exact absurd ⟨by rw [er]; exact hrm, by rw [htt, es, hp.mark]; exact hsu, by rw [htt, el, el]; exact hlv⟩ q
        · rw [htt] at q3 q4
          exact ⟨q3, q4⟩
  exact (key (lv v c.sink).toNat c.sink hsk hss (by have := (hl c.sink hsk hss).1; omega)).1 rfl
end Go.Proofs.Ybulkcejy
