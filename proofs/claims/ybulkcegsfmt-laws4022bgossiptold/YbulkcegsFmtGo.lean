import Derived.Test.YbulkcegsFmtGm
namespace Go.Proofs.YbulkcegsFmt
open Go.RowKit Go.Shelf Go.Extern.Stop Go.Stop Go.Extern
set_option linter.unusedVariables false

def MS : Option Bool → ByteArray
  | none => ⟨#[]⟩
  | some x => nm x
theorem G1.toH2 {ks : List Bool} {w W W8 V W6 : World} {mb len pb db : Nat} {gx gok : Bool} {md : Nat → ZM} {k0 : List Bool} (hks : Hid (k0 ++ keysOf md len = ks)) {a1 : Option Addr} {c1 : Nat} (h : G1 w W mb len len len md k0 (.slice a1 ks.length c1)) (hl : len ≤ 1024) (hk0 : k0.length ≤ 1) (hx : ∀ i, i < len → (md i).xs.length ≤ 140737488351232)
    (hb8 : Below W.heap.size W W8) (hd8 : DataAt W8 db [] gok) (hV : Below W8.heap.size W8 V) (hpb : GosAt V pb gx mb len db)
    (hb6 : Below (V.alloc (.cells #[.nilIface, .int .i64 0] 45)).heap.size (V.alloc (.cells #[.nilIface, .int .i64 0] 45)) W6)
    (hk6 : W6.cell? ⟨(V.alloc (.cells #[.nilIface, .int .i64 0] 45)).heap.size, 0, none⟩ = some (.slice a1 ks.length c1)) (hs6 : (V.alloc (.cells #[.nilIface, .int .i64 0] 45)).heap.size < W6.heap.size) :
    ∃ bf, H6 w W6 V.heap.size (V.heap.size + 1) pb mb db gx gok len md bf ks a1 := by
  have e := hks.out
  subst e
  exact G1.toH h hl hk0 hx hb8 hd8 hV hpb hb6 hk6 hs6
theorem cellb {W W' : World} {n rb i : Nat} {u : Value} (hb : Below n W W') (h : rb < n) (k : W.cell? ⟨rb, i, none⟩ = some u) : W'.cell? ⟨rb, i, none⟩ = some u := (hb.cell (p := ⟨rb, i, none⟩) h).trans k
theorem cellg {W W' : World} {g i : Nat} {u : Value} (hb : Below W.heap.size W W') (k : W.cell? ⟨g, i, none⟩ = some u) : W'.cell? ⟨g, i, none⟩ = some u := (hb.cell (p := ⟨g, i, none⟩) (World.block_lt_of_cell? W _ k)).trans k
end Go.Proofs.YbulkcegsFmt
