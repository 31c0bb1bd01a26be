import Derived.Test.YbulkcejyArc
namespace Go.Proofs.Ybulkcejy
open Go.RowKit
set_option linter.unusedVariables false

/-- The cut network, as far as it is built: m arcs. -/
structure CI (n : Nat) (ts : List (Nat × Nat)) (d : BD) (m : Nat) : Prop where
  lt : d.to.length = m
  lr : d.room.length = m
  ev : m % 2 = 0
  to : ∀ a, a < m → d.to.getD a 0 = aTo n ts a
  rm : ∀ a, a < m → d.room.getD a 0 = aCap n (fun _ => false) a
  og : ∀ u, u < d.N → ∀ a, a ∈ d.og u → a < m ∧ d.to.getD (pt a) 0 = u
  all : ∀ a, a < m → ∃ u, u < d.N ∧ a ∈ d.og u
  ol : ∀ u, u < d.N → (d.og u).length ≤ m
theorem getD_two {α : Type} (l : List α) (x y z : α) (i : Nat) : (l ++ [x] ++ [y]).getD i z = if i < l.length then l.getD i z else if i = l.length then x else if i = l.length + 1 then y else z := by
  simp only [List.getD, List.append_assoc, List.getElem?_append]
  by_cases h : i < l.length
  · simp [h]
  · by_cases h1 : i = l.length
    · subst h1
      simp
    · by_cases h2 : i = l.length + 1
      · subst h2
        rw [if_neg h, if_neg h, if_neg h1, if_pos rfl]
        simp
      · rw [if_neg h, if_neg h, if_neg h1, if_neg h2]
        have : 2 ≤ i - l.length := by omega
        obtain ⟨k, hk⟩ : ∃ k, i - l.length = k + 2 := ⟨i - l.length - 2, by omega⟩
        rw [hk]
        rfl
theorem pt_even {m : Nat} (h : m % 2 = 0) : pt m = m + 1 := by unfold pt; rw [if_pos h]
theorem pt_odd {m : Nat} (h : m % 2 = 0) : pt (m + 1) = m := by unfold pt; rw [if_neg (by omega)]; omega
theorem pt_lt' {a m : Nat} (ha : a < m) (h : m % 2 = 0) : pt a < m := pt_lt ha h
theorem CI.step {n : Nat} {ts : List (Nat × Nat)} {d : BD} {m : Nat} (h : CI n ts d m) {u v : Nat} {cap : Int} (hu : u < d.N) (hv : v < d.N) (e1 : aTo n ts m = v) (e2 : aTo n ts (m + 1) = u) (c1 : aCap n (fun _ => false) m = cap) (c2 : aCap n (fun _ => false) (m + 1) = 0) (tv rv : Value) (ov : Nat → Value) :
    CI n ts (arcD d u v cap tv rv ov) (m + 2) := by
  have eto : (arcD d u v cap tv rv ov).to = d.to ++ [v] ++ [u] := rfl
  have erm : (arcD d u v cap tv rv ov).room = d.room ++ [cap] ++ [0] := rfl
  have eog : (arcD d u v cap tv rv ov).og = updF (updF d.og u (d.og u ++ [d.to.length])) v (updF d.og u (d.og u ++ [d.to.length]) v ++ [d.to.length + 1]) := rfl
  have hlt := h.lt
  have hlr := h.lr
  have hev := h.ev
  have gto : ∀ i, i < m → (d.to ++ [v] ++ [u]).getD i 0 = d.to.getD i 0 := fun i hi => by rw [getD_two, if_pos (by omega)]
  have g0 : (d.to ++ [v] ++ [u]).getD m 0 = v := by rw [getD_two, if_neg (by omega), if_pos (by omega)]
  have g1 : (d.to ++ [v] ++ [u]).getD (m + 1) 0 = u := by rw [getD_two, if_neg (by omega), if_neg (by omega), if_pos (by omega)]
  have key : ∀ w, w < d.N → ∀ a, a ∈ d.og w → a < m + 2 ∧ (d.to ++ [v] ++ [u]).getD (pt a) 0 = w := fun w hw a ha => by
    obtain ⟨q1, q2⟩ := h.og w hw a ha
    exact ⟨by omega, by rw [gto _ (pt_lt' q1 hev)]; exact q2⟩
  have key2 : ∀ w, w < d.N → ∀ a, a ∈ updF d.og u (d.og u ++ [d.to.length]) w → a < m + 2 ∧ (d.to ++ [v] ++ [u]).getD (pt a) 0 = w := fun w hw a ha => by
    by_cases e : w = u
    · subst e
      rw [updF_same] at ha
      rcases List.mem_append.1 ha with q | q
      · exact key w hw a q
      · simp at q
        subst q
        rw [hlt, pt_even hev, g1]
        exact ⟨by omega, rfl⟩
    · rw [updF_ne _ _ e] at ha
      exact key w hw a ha
  refine ⟨by rw [eto]; simp; omega, by rw [erm]; simp; omega, by omega, fun a ha => ?_, fun a ha => ?_, fun w hw a ha => ?_, fun a ha => ?_, fun w hw => ?_⟩
  · rw [eto]
    by_cases q : a < m
    · rw [gto a q]; exact h.to a q
    · by_cases q2 : a = m
      · subst q2; rw [g0, e1]
      · have : a = m + 1 := by omega
        subst this; rw [g1, e2]
  · rw [erm, getD_two]
    by_cases q : a < m
    · rw [if_pos (by omega)]; exact h.rm a q
    · by_cases q2 : a = m
      · subst q2; rw [if_neg (by omega), if_pos (by omega), c1]
      · have : a = m + 1 := by omega
        subst this; rw [if_neg (by omega), if_neg (by omega), if_pos (by omega), c2]
  · have hw' : w < d.N := hw
    rw [eog] at ha
    rw [eto]
    by_cases e : w = v
    · subst e
      rw [updF_same] at ha
      rcases List.mem_append.1 ha with q | q
      · exact key2 w hw' a q
      · simp at q
        subst q
        rw [hlt, pt_odd hev, g0]
        exact ⟨by omega, rfl⟩
    · rw [updF_ne _ _ e] at ha
      exact key2 w hw' a ha
  · rw [eog]
    have up1 : ∀ w x, x ∈ d.og w → x ∈ updF d.og u (d.og u ++ [d.to.length]) w := fun w x hx => by
      by_cases e : w = u
      · subst e; rw [updF_same]; exact List.mem_append_left _ hx
      · rw [updF_ne _ _ e]; exact hx
    have up2 : ∀ w x, x ∈ updF d.og u (d.og u ++ [d.to.length]) w → x ∈ updF (updF d.og u (d.og u ++ [d.to.length])) v (updF d.og u (d.og u ++ [d.to.length]) v ++ [d.to.length + 1]) w := fun w x hx => by
      by_cases e : w = v
      · subst e; rw [updF_same]; exact List.mem_append_left _ hx
      · rw [updF_ne _ _ e]; exact hx
    by_cases q : a < m
    · obtain ⟨w, hw, hm⟩ := h.all a q
      exact ⟨w, hw, up2 w a (up1 w a hm)⟩
    · by_cases q2 : a = m
      · exact ⟨u, hu, up2 u a (by rw [updF_same, hlt, q2]; simp)⟩
      · refine ⟨v, hv, ?_⟩
        rw [updF_same, hlt]
        have : a = m + 1 := by omega
        rw [this]
        simp
  · have hw' : w < d.N := hw
    rw [eog]
    have l1 : ∀ w, w < d.N → (updF d.og u (d.og u ++ [d.to.length]) w).length ≤ m + 1 := fun w hw => by
      have := h.ol w hw
      by_cases e : w = u
      · subst e; rw [updF_same]; simp; omega
      · rw [updF_ne _ _ e]; omega
    have := l1 w hw'
    by_cases e : w = v
    · subst e; rw [updF_same]; simp; omega
    · rw [updF_ne _ _ e]; omega

/-- An extra block more. -/
def addB (d : BD) (l b : Nat) (xs : List Value) : BD := { d with xb := updF d.xb l (some b), xc := updF d.xc l xs, xp := updF d.xp l xs.length }
def setB (d : BD) (l : Nat) (xs : List Value) : BD := { d with xc := updF d.xc l xs }
theorem BF.addB {L : Nat} {W : World} {d : BD} {blk : Nat → Option Nat} {cont : Nat → List Value} {cp : Nat → Nat} (h : BF L W d blk cont cp) {l : Nat} (hl : 1000 ≤ l) (hx : d.xb l = none) {t : Nat} (ht : (l - 1000) % 100 = t) {W' : World} {cur : Array Value} (hg : Below W.heap.size W W') (hn : W'.heap[W.heap.size]? = some (.cells cur t (0, 0))) :
    BX L W' (Ybulkcejy.addB d l W.heap.size cur.toList) := by
  have hN := h.hN
  have hty : tyF l = t := by
    unfold tyF
    rw [if_neg (by omega), if_neg (by omega), if_neg (by omega), if_pos hl]
    exact ht
  have hp := h.hp.made (by rw [(h.ex l hl).1]; exact hx) h.LW (xs := cur.toList) hty hg hn rfl
  have n0 : ∀ {k : Nat}, k < 1000 → updF cont l cur.toList k = cont k := fun hk => updF_ne _ _ (by omega)
  have nb : ∀ {k : Nat}, k < 1000 → updF blk l (some W.heap.size) k = blk k := fun hk => updF_ne _ _ (by omega)
  refine ⟨_, _, _, hp, Nat.le_trans h.LW hg.size, fun k hk => ?_, h.hN, (nb (by omega)).trans h.b0, (nb (by omega)).trans h.b1, (nb (by omega)).trans h.b4, (nb (by omega)).trans h.b5, (nb (by omega)).trans h.b6, (n0 (by omega)).trans h.k0, (n0 (by omega)).trans h.k1, fun u hu => ?_, h.s2.other (by omega), (n0 (by omega)).trans h.k2, h.s3.other (by omega), (n0 (by omega)).trans h.k3, (n0 (by omega)).trans h.k4, (n0 (by omega)).trans h.k5, (n0 (by omega)).trans h.k6, h.s7.other (by omega), (n0 (by omega)).trans h.k7, h.s8.other (by omega), (n0 (by omega)).trans h.k8⟩
  · show _ = updF d.xb l _ k ∧ _ = updF d.xc l _ k ∧ _ = updF d.xp l _ k
    have := h.ex k hk
    by_cases e : k = l
    · subst e
      rw [updF_same, updF_same, updF_same, updF_same, updF_same, updF_same]
      exact ⟨rfl, rfl, rfl⟩
    · rw [updF_ne _ _ e, updF_ne _ _ e, updF_ne _ _ e, updF_ne _ _ e, updF_ne _ _ e, updF_ne _ _ e]
      exact this
  · have hu' : u < d.N := hu
    exact ⟨(h.ks u hu).1.other (by omega), (n0 (by omega)).trans (h.ks u hu).2⟩
theorem BF.setB {L : Nat} {W : World} {d : BD} {blk : Nat → Option Nat} {cont : Nat → List Value} {cp : Nat → Nat} (h : BF L W d blk cont cp) {l b i : Nat} (hl : 1000 ≤ l) (hb : d.xb l = some b) (hi : i < (d.xc l).length) (x : Value) :
    BX L (W.setCell ⟨b, i, none⟩ x) (Ybulkcejy.setB d l ((d.xc l).set i x)) ∧ Below L W (W.setCell ⟨b, i, none⟩ x) := by
  have hN := h.hN
  have hbl := (h.ex l hl).1.trans hb
  have hp := h.hp.store hbl (i := i) (by rw [(h.ex l hl).2.1]; exact hi) x
  rw [(h.ex l hl).2.1] at hp
  have n0 : ∀ {k : Nat}, k < 1000 → updF cont l ((d.xc l).set i x) k = cont k := fun hk => updF_ne _ _ (by omega)
  refine ⟨⟨_, _, _, hp, by simpa using h.LW, fun k hk => ?_, h.hN, h.b0, h.b1, h.b4, h.b5, h.b6, (n0 (by omega)).trans h.k0, (n0 (by omega)).trans h.k1, fun u hu => ?_, h.s2.stored (fun e => absurd e (by omega)), (n0 (by omega)).trans h.k2, h.s3.stored (fun e => absurd e (by omega)), (n0 (by omega)).trans h.k3, (n0 (by omega)).trans h.k4, (n0 (by omega)).trans h.k5, (n0 (by omega)).trans h.k6, h.s7.stored (fun e => absurd e (by omega)), (n0 (by omega)).trans h.k7, h.s8.stored (fun e => absurd e (by omega)), (n0 (by omega)).trans h.k8⟩, h.hp.storeBelow hbl i x⟩
  · show _ = d.xb k ∧ _ = updF d.xc l _ k ∧ _ = d.xp k
    have := h.ex k hk
    by_cases e : k = l
    · subst e
      rw [updF_same, updF_same]
      exact ⟨this.1, rfl, this.2.2⟩
    · rw [updF_ne _ _ e, updF_ne _ _ e]
      exact this
  · have hu' : u < d.N := hu
    exact ⟨(h.ks u hu).1.stored (fun e => absurd e (by omega)), (n0 (by omega)).trans (h.ks u hu).2⟩
theorem BF.xread {L : Nat} {W : World} {d : BD} {blk : Nat → Option Nat} {cont : Nat → List Value} {cp : Nat → Nat} (h : BF L W d blk cont cp) {l b i : Nat} {x : Value} (hl : 1000 ≤ l) (hb : d.xb l = some b) (hx : (d.xc l)[i]? = some x) : W.cell? ⟨b, i, none⟩ = some x :=
  h.hp.read ((h.ex l hl).1.trans hb) (by rw [(h.ex l hl).2.1]; exact hx)
theorem BF.xfz {L : Nat} {W : World} {d : BD} {blk : Nat → Option Nat} {cont : Nat → List Value} {cp : Nat → Nat} (h : BF L W d blk cont cp) {l b : Nat} (i : Nat) (hl : 1000 ≤ l) (hb : d.xb l = some b) : W.frozen? ⟨b, i, none⟩ = false := h.hp.frozen ((h.ex l hl).1.trans hb) i
/-- The built network, as the flows see it. -/
def netOf (d : BD) (n m tc rc : Nat) : Net := { N := d.N, A := m, tc := tc, rc := rc, sink := 2 * n, unb := d.unb, og := d.og, ov := d.ov, to := d.to, xb := d.xb, xc := d.xc, xp := d.xp }
def nv0 (d : BD) : NV := { room := d.room, level := List.replicate d.N 0, seen := List.replicate d.N 0, next := List.replicate d.N 0, mark := 0, reached := [], changed := [] }
theorem BF.toNF {L : Nat} {W : World} {d : BD} {blk : Nat → Option Nat} {cont : Nat → List Value} {cp : Nat → Nat} (h : BF L W d blk cont cp) {n : Nat} {ts : List (Nat × Nat)} {m : Nat} (hc : CI n ts d m) (hm : 0 < m) (hs : d.sink = ((2 * n : Nat) : Int)) :
    ∃ B tc rc, B 0 = d.b0 ∧ NF L W B (netOf d n m tc rc) (nv0 d) (.slice none 0 0) (.slice none 0 0) blk cont cp := by
  rcases h.s2.2 with ⟨_, q, _⟩ | ⟨b2, tc, e2, hb2, _⟩
  · rw [hc.lt] at q; omega
  rcases h.s3.2 with ⟨_, q, _⟩ | ⟨b3, rc, e3, hb3, _⟩
  · rw [hc.lr] at q; omega
  refine ⟨fun l => if l = 0 then d.b0 else if l = 1 then d.b1 else if l = 2 then b2 else if l = 3 then b3 else if l = 4 then d.b4 else if l = 5 then d.b5 else d.b6, tc, rc, rfl, h.hp, h.LW, h.ex, fun l hl => ?_, ?_, h.k1, h.ks, h.k2, hc.lt, h.k3, hc.lr, h.k4, by simp [nv0, netOf], h.k5, by simp [nv0, netOf], h.k6, by simp [nv0, netOf], h.s7, h.k7, h.s8, h.k8⟩
  · rcases l with _ | _ | _ | _ | _ | _ | _ | l
    · exact h.b0
    · exact h.b1
    · exact hb2
    · exact hb3
    · exact h.b4
    · exact h.b5
    · exact h.b6
    · omega
  · rw [h.k0]
    unfold bC netC
    rw [e2, e3, hc.lt, hc.lr, hs]
    rfl
theorem netOf_wf {d : BD} {n : Nat} {ts : List (Nat × Nat)} {m : Nat} (hc : CI n ts d m) (hN : d.N = 2 * n + 1) (hn : n ≤ 10) (ht : ∀ t, t ∈ ts → t.1 < n ∧ t.2 < n) (hm : m = 4 * n + 2 * ts.length) (hm2 : m ≤ 10000) (tc rc : Nat) : WFc (netOf d n m tc rc) := by
  refine ⟨hc.ev, hm2, by show d.N ≤ 100; omega, by show 2 * n < d.N; omega, fun u hu i hi => ?_, fun a ha => ?_, fun u hu => ?_⟩
  · have hi' : i < (d.og u).length := hi
    have hmem : (d.og u).getD i 0 ∈ d.og u := by
      rw [List.getD_eq_getElem?_getD, List.getElem?_eq_getElem hi']
      exact List.getElem_mem hi'
    exact hc.og u hu _ hmem
  · have ha' : a < m := ha
    show d.to.getD a 0 < d.N
    rw [hc.to a ha', hN]
    unfold aTo
    split
    · split
      · omega
      · split <;> omega
    · have hk : (a - 4 * n) / 2 < ts.length := by omega
      have := ht _ (getD_in hk)
      split <;> omega
  · have := hc.ol u hu
    show (d.og u).length ≤ 10000
    omega
theorem netOf_all {d : BD} {n : Nat} {ts : List (Nat × Nat)} {m : Nat} (hc : CI n ts d m) (tc rc : Nat) : ∀ a, a < (netOf d n m tc rc).A → ∃ u i, u < (netOf d n m tc rc).N ∧ i < ((netOf d n m tc rc).og u).length ∧ arc (netOf d n m tc rc) u i = a := fun a ha => by
  obtain ⟨u, hu, hm⟩ := hc.all a ha
  obtain ⟨i, hi, e⟩ := List.getElem_of_mem hm
  refine ⟨u, i, hu, hi, ?_⟩
  show (d.og u).getD i 0 = a
  rw [List.getD_eq_getElem?_getD, List.getElem?_eq_getElem hi]
  exact e
end Go.Proofs.Ybulkcejy
