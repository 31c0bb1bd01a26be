import Derived.Test.YbulkcejyAugQ
import Derived.Test.YbulkcejyBits
import Derived.WalkKit
import Derived.WalkSpells
import Derived.WalkLawsBesides
import Derived.Below
import Derived.OwnWalk
import Derived.BigQuiet
import Derived.Deep.QuietTactic
import Derived.Deep.LoopGhost
import Derived.Deep.DrawnRows
import Derived.Test.YbulkcejyDraw
import Derived.Deep.AppendLies
namespace Go.Proofs.Ybulkcejy
open Go.RowKit
set_option linter.unusedVariables false
attribute [local go_sem] Oper.semAt_some
attribute [local go_sem ↓] Go.wp_at_zero Go.wp_at_succ

theorem Below_drewN {n : Nat} {w W : World} (h : Below n w W) (k : Nat) : Below n w (W.drewN k) := ⟨h.os, h.tape, h.output, h.size, h.block⟩
theorem NF.drewN {L : Nat} {W : World} {B : Nat → Nat} {c : Net} {v : NV} {rv cv : Value} {blk : Nat → Option Nat} {cont : Nat → List Value} {cp : Nat → Nat} (h : NF L W B c v rv cv blk cont cp) (n : Nat) : NF L (W.drewN n) B c v rv cv blk cont cp := h.grow (Below_drewN (Below.refl _ _) n)
theorem NF.cvne {L : Nat} {W : World} {B : Nat → Nat} {c : Net} {v : NV} {rv cv : Value} {blk : Nat → Option Nat} {cont : Nat → List Value} {cp : Nat → Nat} (h : NF L W B c v rv cv blk cont cp) {l : Nat} (hl : l ≤ 6) : some (B l) ≠ cv.ownBlock := by
  rcases h.s8.2 with ⟨e, _, _⟩ | ⟨b, cap, e, hb, _⟩
  · rw [e]
    intro q
    cases q
  · rw [e]
    intro q
    have q2 : B l = b := Option.some.inj q
    have := h.hp.inj l 8 (B l) (h.bl l hl) (by rw [q2]; exact hb)
    omega
theorem abs_world {c : Code} {P : Program} {Q : Exit → Act → World → Prop} {a : Act} {w : World} (S : World → Prop) (h : S w) (k : ∀ W, S W → c.wp P Q a W) : c.wp P Q a w := k w h

theorem nx_set {c : Net} {v : NV} {u : Nat} (hl : v.next.length = c.N) (hu : u < c.N) (x : Int) : nx { v with next := v.next.set u x } u = x := by
  show (v.next.set u x).getD u 0 = x
  rw [getD_set (by rw [hl]; exact hu), if_pos rfl]

theorem Yba.info57 : (Yba.prog.info? 57).map (fun i => (i.zero, i.size, i.bytes)) = some (some (.agg #[.int .i64 0, .int .i64 0]), 2, 16) := by kernel_rfl
theorem ownsRow_below {w w' : World} {base : Nat} {e : TypeId} {size : Nat} {v : Value} {n : Nat} {xs : List Value} (h : w.ownsRow base e size v n xs) (hb : Below w.heap.size w w') : w'.ownsRow base e size v n xs := by
  refine ⟨h.1, ?_⟩
  rcases h.2 with hn | ⟨g, cap, cur, rfl, hbb, hgg, rest⟩
  · exact .inl hn
  · exact .inr ⟨g, cap, cur, rfl, hbb, (hb.block g (Array.getElem?_eq_some_iff.1 hgg).1).trans hgg, rest⟩
theorem cells_new4 {W : World} {n : Nat} (h : W.heap.size = n) (v0 v1 v2 v3 : Value) (t : TypeId) : ∀ j u, [v0, v1, v2, v3][j]? = some u → (W.alloc (.cells #[v0, v1, v2, v3] t)).cell? ((⟨n, 0, none⟩ : Addr).add j) = some u := by
  subst h
  intro j u hu
  rcases j with _ | _ | _ | _ | j
  · cases hu; rw [show (⟨W.heap.size, 0, none⟩ : Addr).add 0 = ⟨W.heap.size, 0, none⟩ from rfl]; go_simp
  · cases hu; rw [show (⟨W.heap.size, 0, none⟩ : Addr).add (0 + 1) = ⟨W.heap.size, 1, none⟩ from rfl]; go_simp
  · cases hu; rw [show (⟨W.heap.size, 0, none⟩ : Addr).add (0 + 1 + 1) = ⟨W.heap.size, 2, none⟩ from rfl]; go_simp
  · cases hu; rw [show (⟨W.heap.size, 0, none⟩ : Addr).add (0 + 1 + 1 + 1) = ⟨W.heap.size, 3, none⟩ from rfl]; go_simp
  · cases hu

/-- What the walk is told of the state. -/
def St (L : Nat) (B : Nat → Nat) (c : Net) (v : NV) (W : World) : Prop := ∃ rv cv blk cont cp, NF L W B c v rv cv blk cont cp
theorem St.drewN {L : Nat} {B : Nat → Nat} {c : Net} {v : NV} {W : World} (h : St L B c v W) (n : Nat) : St L B c v (W.drewN n) := by
  obtain ⟨rv, cv, blk, cont, cp, h⟩ := h
  exact ⟨rv, cv, blk, cont, cp, h.drewN n⟩

end Go.Proofs.Ybulkcejy
