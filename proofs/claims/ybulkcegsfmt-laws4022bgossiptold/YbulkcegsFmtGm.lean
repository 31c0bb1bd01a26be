import Derived.Test.YbulkcegsFmtGe
import Derived.Test.YbulkcegsFmtGl
namespace Go.Proofs.YbulkcegsFmt
open Go.RowKit Go.Shelf Go.Extern.Stop Go.Stop Go.Extern
set_option linter.unusedVariables false

theorem Ybaf.info34 : (Ybaf.prog.info? 34).map (fun i => (i.zero, i.size, i.bytes)) = some (some (.agg #[.string ⟨#[]⟩, .string ⟨#[]⟩, .int .u64 0, .slice none 0 0, .slice none 0 0, .slice none 0 0, .int .i64 0]), 7, 120) := by kernel_rfl
theorem G1.start {w W W' : World} {len : Nat} {md : Nat → ZM} {k0 : List Bool} {kv : Value} {ys : List Value} (hb : Below w.heap.size w W) (hk : W.ownsRow w.heap.size 9 1 kv k0.length (k0.map fun x => .string (nm x)))
    (hr : W'.ownsRow w.heap.size 34 7 (.slice (some ⟨W.heap.size, 0, none⟩) len len) len ys) (hg : W.grownBy W' none) : G1 w W' W.heap.size len 0 0 md k0 kv := by
  have hg2 : Below W.heap.size W W' := (Below.refl _ _).grown hg (Nat.le_refl _) (fun k e => by cases e)
  refine ⟨hb.trans (hg2.mono hb.size), ⟨ys, hr⟩, fun i hi => absurd hi (by omega), ?_, fun e => ?_⟩
  · simp only [keysOf, List.append_nil]
    exact ownsRow_below hk hg2
  · have := (hk.lt _ e).2
    omega
theorem data0 (ok : Bool) (w : World) : Calls Ybaf.prog 7 #[.slice none 0 0, .bool ok] w fun e w' => ∃ g, e = .returned (.slice (some ⟨g, 0, none⟩) 64 64) ∧ w.heap.size ≤ g ∧ DataAt w' g [] ok ∧ Below w.heap.size w w' :=
  data_calls (.slice none 0 0) [] ok w ⟨none, 0, rfl, fun _ => rfl, fun i hi => by simp at hi⟩ (by simp)

/-- The state as the law calls check on the gossip. -/
structure H6 (w W : World) (rb kb pb mb db : Nat) (gx gok : Bool) (len : Nat) (md : Nat → ZM) (bf : Nat → Nat) (ks : List Bool) (a1 : Option Addr) : Prop where
  below : Below w.heap.size w W
  gos : GosAt W pb gx mb len db
  dat : DataAt W db [] gok
  keys : KeysAt W kb ks
  gd : GDat W mb len md bf
  c1 : W.cell? ⟨rb, 1, none⟩ = some (.int .i64 0)
  ks1 : KSt W a1 ks rb
  plt : pb < W.heap.size
theorem G1.toH {w W W8 V W6 : World} {mb len pb db : Nat} {gx gok : Bool} {md : Nat → ZM} {k0 : List Bool} {a1 : Option Addr} {c1 : Nat} (h : G1 w W mb len len len md k0 (.slice a1 (k0 ++ keysOf md len).length c1)) (hl : len ≤ 1024) (hk0 : k0.length ≤ 1) (hx : ∀ i, i < len → (md i).xs.length ≤ 140737488351232)
    (hb8 : Below W.heap.size W W8) (hd8 : DataAt W8 db [] gok) (hV : Below W8.heap.size W8 V) (hpb : GosAt V pb gx mb len db)
    (hb6 : Below (V.alloc (.cells #[.nilIface, .int .i64 0] 45)).heap.size (V.alloc (.cells #[.nilIface, .int .i64 0] 45)) W6)
    (hk6 : W6.cell? ⟨(V.alloc (.cells #[.nilIface, .int .i64 0] 45)).heap.size, 0, none⟩ = some (.slice a1 (k0 ++ keysOf md len).length c1)) (hs6 : (V.alloc (.cells #[.nilIface, .int .i64 0] 45)).heap.size < W6.heap.size) :
    ∃ bf, H6 w W6 V.heap.size (V.heap.size + 1) pb mb db gx gok len md bf (k0 ++ keysOf md len) a1 := by
  have s8 := hb8.size
  have sV := hV.size
  have kl := keysOf_len md len
  simp only [World.size_alloc] at hb6 hk6 hs6
  have b1 : Below W8.heap.size W8 W6 := (hV.alloc hV.size _).trans (hb6.mono (by omega))
  have b2 : Below W.heap.size W W6 := hb8.trans (b1.mono s8)
  have b3 : Below V.heap.size V W6 := ((Below.refl _ V).alloc (Nat.le_refl _) _).trans (hb6.mono (by omega))
  have h6 := h.grow b2
  obtain ⟨a0, c, e, hk⟩ := h6.kv_form
  cases e
  obtain ⟨a0', c', e', hk'⟩ := h.kv_form
  cases e'
  have hpl := World.block_lt_of_cell? V _ hpb
  simp only at hpl
  have kl2 : (k0 ++ keysOf md len).length ≤ 4096 := by rw [List.length_append]; omega
  have he : ∀ i, i < len → ∃ b, MiAt W6 mb i (md i).x (md i).p (md i).st b ((md i).xs.length + 64) ∧ DataAt W6 b (md i).xs (md i).ok := fun i hi => by
    obtain ⟨b, hm, hd, _, _⟩ := h6.done i hi
    exact ⟨b, hm, hd⟩
  obtain ⟨bf, hbf⟩ : ∃ bf : Nat → Nat, ∀ i, i < len → MiAt W6 mb i (md i).x (md i).p (md i).st (bf i) ((md i).xs.length + 64) ∧ DataAt W6 (bf i) (md i).xs (md i).ok := by
    refine ⟨fun i => if hi : i < len then (he i hi).choose else 0, fun i hi => ?_⟩
    simp only [dif_pos hi]
    exact (he i hi).choose_spec
  refine ⟨bf, h6.below, hpb.below b3 hpl, hd8.below b1 hd8.2.2, ⟨by omega, kl2, _, _, hk6, hk⟩, ⟨h6.mlt.2, fun i hi => ⟨(hbf i hi).1, (hbf i hi).2, hx i hi⟩⟩, (hb6.cell (p := ⟨V.heap.size, 1, none⟩) (by show V.heap.size < _; omega)).trans (by go_simp), ⟨kl2, fun hne => ?_, by omega⟩, by omega⟩
  obtain ⟨g, e, hs, hgl⟩ := hk' hne
  exact ⟨g, e, hs.below b2 hgl, by omega⟩
theorem H6.tail {w W W7 : World} {rb kb pb mb db : Nat} {gx gok : Bool} {len : Nat} {md : Nat → ZM} {bf : Nat → Nat} {ks : List Bool} {a1 : Option Addr} (h : H6 w W rb kb pb mb db gx gok len md bf ks a1) (hb : Below W.heap.size W W7) : W7.cell? ⟨rb, 1, none⟩ = some (.int .i64 0) ∧ Below w.heap.size w W7 ∧ rb < W7.heap.size ∧ KSt W7 a1 ks rb :=
  ⟨(hb.cell (p := ⟨rb, 1, none⟩) h.ks1.2.2).trans h.c1, h.below.trans (hb.mono h.below.size), Nat.lt_of_lt_of_le h.ks1.2.2 hb.size, h.ks1.below hb⟩
end Go.Proofs.YbulkcegsFmt
