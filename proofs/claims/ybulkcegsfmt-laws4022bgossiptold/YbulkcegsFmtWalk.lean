import Derived.Test.YbulkcegsFmtData
import Derived.RangeFuncNested
import Derived.RangeFuncBound
import Derived.RangeFuncCalls
import Derived.RangeFuncLeaves
import Derived.Shelf.Abstract
import Derived.Shelf.RegionOpen
import Derived.WalkKit
import Derived.OwnWalkIn
import Derived.TacticsInMore
import Derived.LoopNIn
import Derived.LoopIn
namespace Go.Proofs.YbulkcegsFmt
open Go.RowKit Go.Shelf Go.Extern.Stop Go.Stop Go.Extern
set_option linter.unusedVariables false
attribute [local go_sem] Oper.semAt_some

theorem room_of_none {F : Fence} (hd : F.depth = none) (k : Nat) : F.room k := fun d h => by rw [hd] at h; cases h
theorem roundIn_anyDepth {F : Fence} (hd : F.depth = none) {m m' : Nat} {P : Program} {l : Nat} {f : FuncId} {tmps : Array Value} {assign body : Code} {w : World} {R : Ending → World → Prop}
    (h : RoundIn F m P l f tmps assign body w R) : RoundIn F m' P l f tmps assign body w R := ⟨h.1, fun c cs _ => h.2 c cs (room_of_none hd _)⟩
theorem yieldAt_anyDepth {F : Fence} (hd : F.depth = none) {m : Nat} (m' : Nat) {P : Program} {l : Nat} {args : Array Value} {W : World} {R : Ending → World → Prop} (h : YieldAt F m P l args W R) : YieldAt F m' P l args W R := by
  obtain ⟨fn, tmps, assign, body, hy, hR⟩ := h
  exact ⟨fn, tmps, assign, body, hy, roundIn_anyDepth hd hR⟩

abbrev Msg := Bool × Bool × Int × Nat × Nat
def Msg.v (m : Msg) : Value := msgV m.1 m.2.1 m.2.2.1 m.2.2.2.1 m.2.2.2.2
def Msg.z : Msg := (false, false, 0, 0, 0)
theorem take_snoc' {ms : List Msg} {j : Nat} (h : j < ms.length) : ms.take (j + 1) = ms.take j ++ [ms.getD j Msg.z] := by
  rw [List.take_add_one, List.getElem?_eq_getElem h]
  simp [List.getD, List.getElem?_eq_getElem h]

theorem abides_alloc {β : Type} {B : Nat} {J : β → World → Prop} (h : AbidesFrom B J) {s : β} {W : World} (o : Obj) (hs : J s W) : J s (W.alloc o) := h s W _ none hs (World.grownBy_alloc W o none) (fun r e => by cases e)

set_option maxRecDepth 100000 in
set_option maxHeartbeats 4000000 in
/-- walk over step messages alone. -/
theorem walk_in (F : Fence) (hd : F.depth = none) (h29 : F.fn 29) (hro : F.round = none) (l n₀ : Nat) (ms : List Msg) (hms : ms.length ≤ 4096) (J Jx : List Msg → World → Prop)
    (hY : ∀ m pre x W, J pre W → pre.length < ms.length → YieldAt F m Ybaf.prog l #[Msg.v x] W fun e W' =>
      (e = .returned (.bool true) ∧ J (pre ++ [x]) W' ∧ Below n₀ W W') ∨ (e = .returned (.bool false) ∧ Jx (pre ++ [x]) W'))
    (n pb c : Nat) (hpb : pb < n₀) (W : World) (hn₀ : n₀ ≤ W.heap.size) (hJa : AbidesFrom W.heap.size J) (hc : ∀ k, k < ms.length → W.cell? ⟨pb, k, none⟩ = some (.iface 34 (Msg.v (ms.getD k Msg.z)))) (h0 : J [] W) :
    CallsIn F n Ybaf.prog 29 #[.slice (some ⟨pb, 0, none⟩) ms.length c, .int .i64 16, .func (.yield l) #[] #[]] W fun e W' =>
      (e = .returned (.bool true) ∧ J ms W') ∨ (e = .returned (.bool false) ∧ ∃ q, q <+: ms ∧ Jx q W') := by
  have hdd : ∀ k : Nat, (F.depth.isSome = true → 1 ≤ k) := fun k h => by rw [hd] at h; cases h
  refine callsIn_of_wp Ybaf.func29 rfl h29 ?_ hro
  simp only [Ybaf.ntmps29, List.size_toArray, List.length_cons, List.length_nil, Nat.reduceAdd, Nat.reduceSub, Array.replicate_succ, Array.replicate_zero, List.push_toArray, List.append_toArray, List.nil_append, List.cons_append]
  gi_wp2
  gi_loopw [17] (fun i wr => ∃ k : Nat, k ≤ ms.length ∧ i = .int .i64 k ∧ J (ms.take k) wr ∧ Below n₀ W wr)
    (fun i _ => ms.length - (intOf i).toNat)
  case atStart => exact ⟨0, Nat.zero_le _, rfl, h0, Below.refl _ _⟩
  case round =>
    obtain ⟨k, hk, rfl, hJs, hnx⟩ := hrel
    by_cases hlt : k < ms.length
    · have hcx : wr.cell? ⟨pb, k, none⟩ = some (.iface 34 (Msg.v (ms.getD k Msg.z))) := (hnx.cell (p := ⟨pb, k, none⟩) hpb).trans (hc k hlt)
      have hsn := take_snoc' hlt
      generalize ms.getD k Msg.z = m at hcx hsn
      obtain ⟨x, p, st, b, nn⟩ := m
      have hlti : (k : Int) < ms.length := by omega
      obtain ⟨fn, tmps, assign, body, hy, hR⟩ := hY (n - 1) _ (x, p, st, b, nn) (wr.alloc (.cells (msgC x p st b nn) 34)) (abides_alloc hJa (.cells (msgC x p st b nn) 34) hJs) (by rw [List.length_take]; omega)
      unfold Msg.v msgV msgC at hy
      unfold Msg.v msgV at hcx
      dsimp only at hcx hy
      gi_wp2
      refine hR.mono ?_
      have hsz := hnx.size
      have hbx : Below n₀ wr (wr.alloc (.cells (msgC x p st b nn) 34)) := (Below.refl _ _).alloc (by omega) _
      rintro e W3 (⟨rfl, hJ3, hk3⟩ | ⟨rfl, hJx3⟩)
      · gi_wp2
        go_roundw
        case rel => exact ⟨k + 1, by omega, by simp, by rw [hsn]; exact hJ3, hnx.trans (hbx.trans hk3)⟩
        case measure => simp [intOf]; omega
      · gi_wp2
        go_ret
        exact .inr ⟨rfl, _, by rw [← hsn]; exact List.take_prefix _ _, hJx3⟩
    · obtain rfl : k = ms.length := by omega
      gi_wp2
      go_ret
      exact .inl ⟨rfl, by rwa [List.take_length] at hJs⟩

set_option maxHeartbeats 4000000 in
theorem steps1_in (F : Fence) (hd : F.depth = none) (h28 : F.fn 28) (h29 : F.fn 29) (hro : F.round = none) (n l n₀ Bp Bd : Nat) (ms : List Msg) (hms : ms.length ≤ 4096) (J Jx : List Msg → World → Prop)
    (hY : ∀ pre x W, J pre W → pre.length < ms.length → YieldAt F (n - 1) Ybaf.prog l #[Msg.v x] W fun e W' =>
      (e = .returned (.bool true) ∧ J (pre ++ [x]) W' ∧ Below n₀ W W') ∨ (e = .returned (.bool false) ∧ Jx (pre ++ [x]) W'))
    (pb c : Nat) (hpb : pb < n₀) (W : World) (hn₀ : n₀ ≤ W.heap.size) (hJa : AbidesFrom W.heap.size J) (hc : ∀ k, k < ms.length → W.cell? ⟨pb, k, none⟩ = some (.iface 34 (Msg.v (ms.getD k Msg.z))))
    (hBp : W.cell? ⟨Bp, 0, none⟩ = some (.slice (some ⟨pb, 0, none⟩) ms.length c)) (hBd : W.cell? ⟨Bd, 0, none⟩ = some (.int .i64 16)) (h0 : J [] W) :
    CallsIn F n Ybaf.prog 28 #[.func (.yield l) #[] #[], .pointer (some ⟨Bp, 0, none⟩), .pointer (some ⟨Bd, 0, none⟩)] W fun e W' => (∃ v, e = .returned v) ∧
      ((∃ ys, ys = ms ∧ J ys W') ∨ (∃ pre, pre <+: ms ∧ Jx pre W')) := by
  have hdd : ∀ k : Nat, (F.depth.isSome = true → 1 ≤ k) := fun k h => by rw [hd] at h; cases h
  have hp := walk_in F hd h29 hro l n₀ ms hms J Jx (fun m pre x W hj hl => yieldAt_anyDepth hd m (hY pre x W hj hl)) (n - 1) pb c hpb W hn₀ hJa hc h0
  refine callsIn_of_wp Ybaf.func28 rfl h28 ?_ hro
  simp only [Ybaf.ntmps28, List.size_toArray, List.length_cons, List.length_nil, Nat.reduceAdd, Nat.reduceSub, Array.replicate_succ, Array.replicate_zero, List.push_toArray, List.append_toArray, List.nil_append, List.cons_append]
  gi_wp2_with ((try refine ⟨hdd _, ?_⟩); gi_at_call 29; refine hp.mono ?_; clear hp; rintro e W1 (⟨rfl, hJ1⟩ | ⟨rfl, q, hq, hx⟩))
  · go_end0
    exact ⟨⟨_, rfl⟩, .inl ⟨_, rfl, hJ1⟩⟩
  · go_end0
    exact ⟨⟨_, rfl⟩, .inr ⟨q, hq, hx⟩⟩

/-- The iterator over a proof's step messages. -/
theorem steps_stops (F : Fence) (hd : F.depth = none) (h28 : F.fn 28) (h29 : F.fn 29) (hro : F.round = none) (n n₀ Bp Bd : Nat) (ms : List Msg) (hms : ms.length ≤ 4096) (pb c : Nat) (hpb : pb < n₀) (w : World) (hn₀ : n₀ ≤ w.heap.size)
    (hBp' : Bp < w.heap.size) (hBd' : Bd < w.heap.size) (hc : ∀ k, k < ms.length → w.cell? ⟨pb, k, none⟩ = some (.iface 34 (Msg.v (ms.getD k Msg.z))))
    (hBp : w.cell? ⟨Bp, 0, none⟩ = some (.slice (some ⟨pb, 0, none⟩) ms.length c)) (hBd : w.cell? ⟨Bd, 0, none⟩ = some (.int .i64 16)) :
    SeqStopsK F n Ybaf.prog 28 #[.pointer (some ⟨Bp, 0, none⟩), .pointer (some ⟨Bd, 0, none⟩)] (fun x : Msg => #[Msg.v x]) (Below n₀) (fun ys => ys = ms) (fun pre => pre <+: ms) ms.length w := fun l J Jx W hW hJa _ hY h0 =>
  steps1_in F hd h28 h29 hro n l n₀ Bp Bd ms hms J Jx hY pb c hpb W (Nat.le_trans hn₀ hW.size) hJa (fun k hk => ((hW.cell (p := ⟨pb, k, none⟩) (Nat.lt_of_lt_of_le hpb hn₀))).trans (hc k hk)) ((hW.cell (p := ⟨Bp, 0, none⟩) hBp').trans hBp) ((hW.cell (p := ⟨Bd, 0, none⟩) hBd').trans hBd) h0
end Go.Proofs.YbulkcegsFmt
