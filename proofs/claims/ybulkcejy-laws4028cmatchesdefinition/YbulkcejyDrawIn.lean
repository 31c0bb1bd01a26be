import Derived.StillTail
import Derived.StillTactics
import Derived.OrdersIn
import Derived.TacticsIn
namespace Go.Proofs.Ybulkcejy
open Go

def okOp : Op → Bool
  | .move _ | .load .. | .fieldAddr .. | .indexAddr .. | .nilCheck _ => true
  | _ => false
theorem bind_ok {α β : Type} {P : Program} {w w' : World} {s : Sem α} {k : α → Sem β} {r : β} (h : (s >>= k).run P w = .ok r w') : ∃ a w1, (k a).run P w1 = .ok r w' := by
  rw [Sem.run_bind] at h
  cases hs : s.run P w with
  | ok a w1 => rw [hs] at h; exact ⟨a, w1, h⟩
  | halt x w1 => rw [hs] at h; simp [Result.andThen] at h
theorem pure_ne {P : Program} {w w' : World} {v : Value} {f : FuncId} {args : Array Value} (h : (pure (Next.value v) : Sem Next).run P w = .ok (.enter f args) w') : False := by
  rw [Sem.run_pure] at h
  cases h
theorem run_value_ne {P : Program} {w w' : World} {s : Sem Value} {f : FuncId} {args : Array Value} (h : (do pure (Next.value (← s)) : Sem Next).run P w = .ok (.enter f args) w') : False := by
  obtain ⟨a, w1, h1⟩ := bind_ok h
  exact pure_ne h1
theorem goPanic_ne {P : Program} {w w' : World} {v : Value} {r : Next} (h : (goPanic v : Sem Next).run P w = .ok r w') : False := by
  simp [goPanic] at h
theorem runtimePanic_ne {P : Program} {w w' : World} {r : Next} (h : (runtimePanic .nilDeref : Sem Next).run P w = .ok r w') : False := by
  obtain ⟨p, w1, h1⟩ := bind_ok h
  simp only [] at h1
  exact goPanic_ne h1
theorem no_enter {P : Program} {o : Oper} {ρ : Operand → Value} {w w' : World} {f : FuncId} {args : Array Value} (ho : okOp o.op = true) (h : (execOp ρ o).run P w = .ok (.enter f args) w') : False := by
  unfold execOp at h
  cases hop : o.op <;> rw [hop] at ho h <;> first | (exact absurd ho Bool.false_ne_true) | skip
  case move => exact pure_ne h
  case load => exact run_value_ne h
  case fieldAddr => exact run_value_ne h
  case indexAddr => exact run_value_ne h
  case nilCheck x =>
    dsimp only at h
    split at h
    · exact runtimePanic_ne h
    · exact runtimePanic_ne h
    · exact runtimePanic_ne h
    · split at h
      · exact runtimePanic_ne h
      · obtain ⟨_, _, h⟩ := bind_ok h
        obtain ⟨_, _, h⟩ := bind_ok h
        split at h
        · obtain ⟨_, _, h⟩ := bind_ok h
          exact pure_ne h
        · exact pure_ne h
      · exact pure_ne h
    · exact pure_ne h
theorem ok_about {P : Program} {o : Oper} {ρ : Operand → Value} {w : World} (ho : okOp o.op = true) : o.about P w ρ = none := by
  unfold Oper.about
  cases hop : o.op <;> rw [hop] at ho <;> first | (exact absurd ho Bool.false_ne_true) | rfl
theorem ok_defer {o : Oper} (ho : okOp o.op = true) : ∀ c, o.op ≠ .defer c := fun c e => by
  rw [e] at ho
  exact absurd ho Bool.false_ne_true

section
variable {F : Fence} {n : Nat} {P : Program} {ops : Array Oper} {Q : Exit → Act → World → Prop} {md : Region.Mode} {w : World}
theorem wpOpIn_of_st {i : Nat} {o : Oper} (hi : ops[i]? = some o) (ho : okOp o.op = true) {a : Act} {K : Act → Prop} {K' : Act → World → Prop} (h : ∀ a, K a → K' a w) (hs : stOp P ops w i K a) : wpOpIn F n P ops Q i K' a w := by
  unfold stOp at hs
  unfold wpOpIn
  simp only [hi] at hs ⊢
  split
  · rename_i hw
    rw [if_pos hw] at hs
    refine ⟨fun f e => (by rw [ok_about ho] at e; cases e), ?_⟩
    rw [Oper.semAt_eq _ _ _ (ok_defer ho)]
    unfold Oper.still at hs
    cases hr : (execOp a.eval o).run P w with
    | ok nx w' =>
      rw [hr] at hs
      cases nx <;> simp only [Oper.stillUpon] at hs
      case value => obtain ⟨rfl, h2⟩ := hs; exact h _ h2
      case skip => obtain ⟨rfl, h2⟩ := hs; exact h _ h2
      case enter => exact (no_enter ho hr).elim
    | halt x w' =>
      rw [hr] at hs
      simp only [Oper.stillUpon] at hs
  · rename_i hw
    rw [if_neg hw] at hs
    exact ⟨fun f e => (by rw [ok_about ho] at e; cases e), h _ hs⟩
theorem wpAnyIn_of_head {k g : Nat} {L : Array Bool → Act → Prop} (hok : ∀ i o, i < k → ops[i]? = some o → okOp o.op = true) (hks : k ≤ ops.size) (hL : ∀ listed a, L listed a → wpAnyIn F n P md ops Q g listed a w) :
    ∀ (f : Nat) (listed : Array Bool) (a : Act), wpAnyL P md ops w k L f listed a → wpAnyIn F n P md ops Q (f + g) listed a w
  | 0, listed, a, h => by rw [Nat.zero_add]; exact hL _ _ h
  | f + 1, listed, a, h => by
    rw [show f + 1 + g = (f + g) + 1 by omega]
    refine ⟨fun h0 => absurd h0 h.1, fun i hi => ?_⟩
    obtain ⟨hik, hst⟩ := h.2 i hi
    obtain ⟨o, ho⟩ : ∃ o, ops[i]? = some o := ⟨_, Array.getElem?_eq_getElem (by omega)⟩
    exact wpOpIn_of_st ho (hok i o hik ho) (fun a' h' => wpAnyIn_of_head hok hks hL f _ a' h') hst
theorem wpAnyIn_of_seq : ∀ (l : List Oper) (k : Nat) (listed : Array Bool) (a : Act) (w : World), (∀ j, l[j]? = ops[k + j]?) →
    Region.seqB md ops l.length k listed = true → wpListIn F n P ops Q l a w → wpAnyIn F n P md ops Q l.length listed a w
  | [], _, _, _, _, _, hB, h => ⟨by simpa [Region.seqB] using hB, h⟩
  | o :: l, k, listed, a, w, hl, hB, h => by
    have h0 : ops[k]? = some o := by simpa using (hl 0).symm
    simp only [List.length_cons, Region.seqB, Bool.and_eq_true, decide_eq_true_eq] at hB
    refine ⟨fun h1 => (by rw [hB.1] at h1; cases h1), fun i hi => ?_⟩
    rw [hB.1] at hi
    have hik : i = k := by simpa using hi
    subst hik
    have hw : wpOpIn F n P ops Q i (wpListIn F n P ops Q l) a w := by unfold wpOpIn; simp only [h0]; exact h
    exact wpOpIn_mono (fun a' w' h' => wpAnyIn_of_seq l (i + 1) _ a' w' (fun j => by have := hl (j + 1); simpa [Nat.add_assoc, Nat.add_comm 1 j] using this) hB.2 h') hw
theorem wpIn_still_tail {id : Nat} {a : Act} {l : List Oper} (k : Nat) (hm : P.follows .mixedOrders = true) (hB : Region.lexTailB .any l.toArray k = true) (hok : (l.take k).all (fun o => okOp o.op) = true)
    (h : wpStill P l.toArray { w with drawn := w.drawn + 1 } (fun a' => wpListIn F n P l.toArray Q (l.drop k) a' { w with drawn := w.drawn + 1 }) (l.take k) a) : (Code.region id l.toArray true).wpIn F n P Q a w := by
  simp only [Region.lexTailB, Bool.and_eq_true, decide_eq_true_eq] at hB
  obtain ⟨⟨⟨⟨hsel, hn⟩, hs⟩, hc⟩, hlex⟩ := hB
  have hn' : k < l.length := by simpa using hn
  have htl : (l.take k).length = k := by simp; omega
  have hdl : (l.drop k).length = l.toArray.size - k := by simp
  have inv0 : HeadInv .any l.toArray k (Array.replicate l.toArray.size false) :=
    ⟨by simp, fun j oj _ hl => (by rw [getD_replicate_false] at hl; cases hl), fun t _ ht => getD_in (by simpa using ht) (getD_replicate_false _ _)⟩
  have H := wpAnyL_lex (md := .any) (g := l.toArray.size - k) hsel hs hc hn (l.take k) 0 _ a (fun j hj => by
    have hj' : j < k := by rw [htl] at hj; exact hj
    simp [hj']) (by simpa using htl) inv0 (by rw [htl]; exact hlex) h
  refine wpIn_region_any hm ?_
  have := wpAnyIn_of_head (F := F) (n := n) (Q := Q) (g := l.toArray.size - k) (fun i o hik ho => by
      have h1 : l[i]? = some o := by simpa using ho
      have h2 : o ∈ l.take k := List.mem_of_getElem? (i := i) (by rw [List.getElem?_take, if_pos hik]; exact h1)
      exact List.all_eq_true.1 hok o h2) (by simp; omega) (fun listed a' hL => by
    have := wpAnyIn_of_seq (F := F) (n := n) (md := .any) (Q := Q) (l.drop k) k listed a' { w with drawn := w.drawn + 1 } (fun j => by simp [List.getElem?_drop]) (by rw [hdl]; exact hL.1) hL.2
    rwa [hdl] at this) _ _ _ H
  rw [htl, show k + (l.toArray.size - k) = l.toArray.size by omega] at this
  exact this
end
end Go.Proofs.Ybulkcejy
