import Derived.Test.YbulkceiwFmtProg
import Derived.RangeFuncRecord
import Derived.WalkKit
import Derived.Below
namespace Go.Proofs.YbulkceiwFmt
open Go.RowKit
set_option linter.unusedVariables false
set_option linter.unusedSimpArgs false

/-- The player's variables: three entries, in the order in which they were laid. -/
def ents (a b s : ByteArray) : Array MapEntry := #[{ key := .string ⟨#[65, 82, 71, 83]⟩, val := .string a, born := 0 }, { key := .string ⟨#[65, 82, 71, 86]⟩, val := .string b, born := 1 }, { key := .string ⟨#[83, 84, 65, 84, 85, 83]⟩, val := .string s, born := 2 }]

theorem get_map {r : Nat} {es : Array MapEntry} {c : Nat} {w : World} (hb : w.heap[r]? = some (.map es c)) : (getObj r).run Ybaf.prog w = .ok (.map es c) w := by simp [getObj, Sem.run, hb]
theorem set_map {r : Nat} {es : Array MapEntry} {c : Nat} {w : World} (o : Obj) (hb : w.heap[r]? = some (.map es c)) : (setObj r o).run Ybaf.prog w = .ok () (w.putObj r o) := by simp [setObj, Sem.run, hb, World.putObj]
theorem und34 (w : World) : (underlying 34).run Ybaf.prog w = .ok (.map 9 9) w := by kernel_rfl
theorem chkArgs (w : World) : (Instr.checkKey false 10000 9 (.string ⟨#[65, 82, 71, 83]⟩)).run Ybaf.prog w = .ok () w := by kernel_rfl
theorem chkArgv (w : World) : (Instr.checkKey false 10000 9 (.string ⟨#[65, 82, 71, 86]⟩)).run Ybaf.prog w = .ok () w := by kernel_rfl
theorem chkStat (w : World) : (Instr.checkKey false 10000 9 (.string ⟨#[83, 84, 65, 84, 85, 83]⟩)).run Ybaf.prog w = .ok () w := by kernel_rfl
theorem findArgs (a b s : ByteArray) (w : World) : (Instr.findKey 9 (.string ⟨#[65, 82, 71, 83]⟩) (ents a b s).toList).run Ybaf.prog w = .ok (some (0, .string a)) w := by kernel_rfl
theorem lookArgs (a b s : ByteArray) (r : Nat) (w : World) (hb : w.heap[r]? = some (.map (ents a b s) 3)) :
    (Instr.lookup 34 (.map (some r)) (.string ⟨#[65, 82, 71, 83]⟩) false).run Ybaf.prog w = .ok (.string a) w := by
  unfold Instr.lookup
  simp only [Sem.run_bind, und34, Result.andThen, get_map hb, Sem.run_pure, chkArgs, findArgs, show (ents a b s).isEmpty = false from rfl]
  rfl
theorem findArgv (a b s : ByteArray) (w : World) : (Instr.findKey 9 (.string ⟨#[65, 82, 71, 86]⟩) (ents a b s).toList).run Ybaf.prog w = .ok (some (1, .string b)) w := by kernel_rfl
theorem lookArgv (a b s : ByteArray) (r : Nat) (w : World) (hb : w.heap[r]? = some (.map (ents a b s) 3)) :
    (Instr.lookup 34 (.map (some r)) (.string ⟨#[65, 82, 71, 86]⟩) false).run Ybaf.prog w = .ok (.string b) w := by
  unfold Instr.lookup
  simp only [Sem.run_bind, und34, Result.andThen, get_map hb, Sem.run_pure, chkArgv, findArgv, show (ents a b s).isEmpty = false from rfl]
  rfl
theorem findStat (a b s : ByteArray) (w : World) : (Instr.findKey 9 (.string ⟨#[83, 84, 65, 84, 85, 83]⟩) (ents a b s).toList).run Ybaf.prog w = .ok (some (2, .string s)) w := by kernel_rfl
theorem lookStat (a b s : ByteArray) (r : Nat) (w : World) (hb : w.heap[r]? = some (.map (ents a b s) 3)) :
    (Instr.lookup 34 (.map (some r)) (.string ⟨#[83, 84, 65, 84, 85, 83]⟩) false).run Ybaf.prog w = .ok (.string s) w := by
  unfold Instr.lookup
  simp only [Sem.run_bind, und34, Result.andThen, get_map hb, Sem.run_pure, chkStat, findStat, show (ents a b s).isEmpty = false from rfl]
  rfl
theorem staysArgs (w : World) : (Instr.keyThatStays (.string ⟨#[65, 82, 71, 83]⟩) (.string ⟨#[65, 82, 71, 83]⟩)).run Ybaf.prog w = .ok (.string ⟨#[65, 82, 71, 83]⟩) w := by kernel_rfl
theorem entryArgs (a b s : ByteArray) (r : Nat) (w : World) (hb : w.heap[r]? = some (.map (ents a b s) 3)) :
    (Instr.mapEntry 34 (.map (some r)) (.string ⟨#[65, 82, 71, 83]⟩)).run Ybaf.prog w = .ok (.tuple #[.string a, .int .i64 0]) (w.putObj r (.map (ents a b s) 3)) := by
  unfold Instr.mapEntry
  simp only [Sem.run_bind, und34, Result.andThen, get_map hb, Sem.run_pure, chkArgs, findArgs, show (((ents a b s)[0]?).map (·.key)).getD (.string ⟨#[65, 82, 71, 83]⟩) = .string ⟨#[65, 82, 71, 83]⟩ from rfl, staysArgs, set_map _ hb]
  rfl
theorem staysArgv (w : World) : (Instr.keyThatStays (.string ⟨#[65, 82, 71, 86]⟩) (.string ⟨#[65, 82, 71, 86]⟩)).run Ybaf.prog w = .ok (.string ⟨#[65, 82, 71, 86]⟩) w := by kernel_rfl
theorem entryArgv (a b s : ByteArray) (r : Nat) (w : World) (hb : w.heap[r]? = some (.map (ents a b s) 3)) :
    (Instr.mapEntry 34 (.map (some r)) (.string ⟨#[65, 82, 71, 86]⟩)).run Ybaf.prog w = .ok (.tuple #[.string b, .int .i64 1]) (w.putObj r (.map (ents a b s) 3)) := by
  unfold Instr.mapEntry
  simp only [Sem.run_bind, und34, Result.andThen, get_map hb, Sem.run_pure, chkArgv, findArgv, show (((ents a b s)[1]?).map (·.key)).getD (.string ⟨#[65, 82, 71, 86]⟩) = .string ⟨#[65, 82, 71, 86]⟩ from rfl, staysArgv, set_map _ hb]
  rfl
theorem storeArgs (a b s v : ByteArray) (r : Nat) (w : World) (hb : w.heap[r]? = some (.map (ents a b s) 3)) :
    (Instr.entryStore 34 (.map (some r)) (.int .i64 0) (.string v)).run Ybaf.prog w = .ok () (w.putObj r (.map (ents v b s) 3)) := by
  unfold Instr.entryStore
  simp only [Sem.run_bind, Result.andThen, get_map hb, Sem.run_pure, show ∀ w : World, (asInt (.int .i64 0)).run Ybaf.prog w = .ok 0 w from fun _ => rfl, show (ents a b s).findIdx? (fun e => (e.born : Int) == 0) = some 0 from by kernel_rfl, set_map _ hb]
  rfl
theorem storeArgv (a b s v : ByteArray) (r : Nat) (w : World) (hb : w.heap[r]? = some (.map (ents a b s) 3)) :
    (Instr.entryStore 34 (.map (some r)) (.int .i64 1) (.string v)).run Ybaf.prog w = .ok () (w.putObj r (.map (ents a v s) 3)) := by
  unfold Instr.entryStore
  simp only [Sem.run_bind, Result.andThen, get_map hb, Sem.run_pure, show ∀ w : World, (asInt (.int .i64 1)).run Ybaf.prog w = .ok 1 w from fun _ => rfl, show (ents a b s).findIdx? (fun e => (e.born : Int) == 1) = some 1 from by kernel_rfl, set_map _ hb]
  rfl
theorem lenMap (a b s : ByteArray) (r : Nat) (w : World) (hb : w.heap[r]? = some (.map (ents a b s) 3)) :
    (Builtin.len_ #[34] 3 #[.map (some r)]).run Ybaf.prog w = .ok (.int .i64 3) w := by
  unfold Builtin.len_
  simp only [show (#[34] : Array TypeId)[0]? = some 34 from rfl, show (#[Value.map (some r)])[0]? = some (.map (some r)) from rfl, Sem.run_bind, und34, Result.andThen, get_map hb, Sem.run_pure]
  rfl

/-! The three inserts of the literal, each onto the block that was just laid. -/
theorem find0 (k : ByteArray) (w : World) : (Instr.findKey 9 (.string k) []).run Ybaf.prog w = .ok none w := by kernel_rfl
theorem find1 (a : ByteArray) (w : World) : (Instr.findKey 9 (.string ⟨#[65, 82, 71, 86]⟩) [{ key := .string ⟨#[65, 82, 71, 83]⟩, val := .string a, born := 0 }]).run Ybaf.prog w = .ok none w := by kernel_rfl
theorem find2 (a b : ByteArray) (w : World) : (Instr.findKey 9 (.string ⟨#[83, 84, 65, 84, 85, 83]⟩) [{ key := .string ⟨#[65, 82, 71, 83]⟩, val := .string a, born := 0 }, { key := .string ⟨#[65, 82, 71, 86]⟩, val := .string b, born := 1 }]).run Ybaf.prog w = .ok none w := by kernel_rfl
theorem put_new (w : World) (o o' : Obj) : (w.alloc o).putObj w.heap.size o' = w.alloc o' := by
  have h : ∀ (xs : Array Obj), (xs.push o).setIfInBounds xs.size o' = xs.push o' := by
    intro xs
    apply Array.ext
    · simp
    · intro i h1 h2
      simp only [Array.size_setIfInBounds, Array.size_push] at h1
      by_cases hi : xs.size = i
      · subst hi
        simp
      · rw [Array.getElem_setIfInBounds_ne (by simpa using h1) hi, Array.getElem_push_lt (by omega), Array.getElem_push_lt (by omega)]
  unfold World.putObj World.alloc
  rw [h]
theorem heap_new (w : World) (o : Obj) : (w.alloc o).heap[w.heap.size]? = some o := heap_alloc_new w o
theorem ins0 (a : ByteArray) (w : World) : (Instr.mapUpdate 34 (.map (some w.heap.size)) (.string ⟨#[65, 82, 71, 83]⟩) (.string a)).run Ybaf.prog (w.alloc (.map #[] 0)) = .ok () (w.alloc (.map #[{ key := .string ⟨#[65, 82, 71, 83]⟩, val := .string a, born := 0 }] 1)) := by
  unfold Instr.mapUpdate
  simp only [Sem.run_bind, und34, Result.andThen, get_map (heap_new w _), Sem.run_pure, chkArgs, find0, set_map _ (heap_new w _), put_new]
  rfl
theorem ins1 (a b : ByteArray) (w : World) : (Instr.mapUpdate 34 (.map (some w.heap.size)) (.string ⟨#[65, 82, 71, 86]⟩) (.string b)).run Ybaf.prog (w.alloc (.map #[{ key := .string ⟨#[65, 82, 71, 83]⟩, val := .string a, born := 0 }] 1)) = .ok () (w.alloc (.map #[{ key := .string ⟨#[65, 82, 71, 83]⟩, val := .string a, born := 0 }, { key := .string ⟨#[65, 82, 71, 86]⟩, val := .string b, born := 1 }] 2)) := by
  unfold Instr.mapUpdate
  simp only [Sem.run_bind, und34, Result.andThen, get_map (heap_new w _), Sem.run_pure, chkArgv, find1, set_map _ (heap_new w _), put_new]
  rfl
theorem ins2 (a b s : ByteArray) (w : World) : (Instr.mapUpdate 34 (.map (some w.heap.size)) (.string ⟨#[83, 84, 65, 84, 85, 83]⟩) (.string s)).run Ybaf.prog (w.alloc (.map #[{ key := .string ⟨#[65, 82, 71, 83]⟩, val := .string a, born := 0 }, { key := .string ⟨#[65, 82, 71, 86]⟩, val := .string b, born := 1 }] 2)) = .ok () (w.alloc (.map (ents a b s) 3)) := by
  unfold Instr.mapUpdate
  simp only [Sem.run_bind, und34, Result.andThen, get_map (heap_new w _), Sem.run_pure, chkStat, find2, set_map _ (heap_new w _), put_new]
  rfl
end Go.Proofs.YbulkceiwFmt
