import Derived.Test.YbulkcegsFmtAs
namespace Go.Proofs.YbulkcegsFmt
open Go.RowKit Go.Extern.Stop Go.Stop Go.Extern
set_option linter.unusedVariables false

theorem Ybaf.typeOf66 (v : Value) (w : World) : (ReflectliteType.typeOf #[.iface 66 v]).run Ybaf.prog w = .ok (.iface 113 (.agg #[.pointer (some ⟨1, 66, none⟩)])) w := by kernel_rfl
theorem Ybaf.assignable66 (w : World) : (ReflectliteType.relation "AssignableTo" ReflectliteType.assignableTo #[.agg #[.pointer (some ⟨1, 66, none⟩)], .iface 113 (.agg #[.pointer (some ⟨1, 40, none⟩)])]).run Ybaf.prog w = .ok (.bool false) w := by kernel_rfl
theorem Ybaf.noAs66 (v : Value) (xT : TypeId) (w : World) : (Instr.typeAssert (.iface 66 v) xT 118 true).run Ybaf.prog w = .ok (.tuple #[.nilIface, .bool false]) w := run_typeAssert_lacksB Ybaf.underlying118 (by kernel_rfl) (by kernel_rfl) v xT w
theorem Ybaf.noUnwrap66 (v : Value) (xT : TypeId) (w : World) : (Instr.typeAssert (.iface 66 v) xT 121 true).run Ybaf.prog w = .ok (.tuple #[.nilIface, .bool false]) w := run_typeAssert_lacksB Ybaf.underlying121 (by kernel_rfl) (by kernel_rfl) v xT w
theorem Ybaf.noUnwraps66 (v : Value) (xT : TypeId) (w : World) : (Instr.typeAssert (.iface 66 v) xT 123 true).run Ybaf.prog w = .ok (.tuple #[.nilIface, .bool false]) w := run_typeAssert_lacksB Ybaf.underlying123 (by kernel_rfl) (by kernel_rfl) v xT w
set_option maxHeartbeats 4000000 in
theorem as_miss (e t : Addr) (w : World) (hg : w.cell? ⟨0, 0, none⟩ = some (.iface 113 (.agg #[.pointer (some ⟨1, 38, none⟩)]))) :
    Calls Ybaf.prog 25 #[.iface 66 (.pointer (some e)), .iface 85 (.pointer (some t))] w fun ev w' => ev = .returned (.bool false) ∧ w' = (((w.alloc (.cells #[.pointer (some t)] 85)).alloc (.cells #[.pointer (some ⟨1, 85, none⟩), .pointer (some ⟨w.heap.size, 0, none⟩), .int .u64 150] 102)).alloc (.cells #[.pointer (some ⟨1, 85, none⟩), .pointer (some ⟨w.heap.size, 0, none⟩), .int .u64 150] 102)) := by
  have h6 := @run_callFunc_extern Ybaf.prog 34 _ (fun args => ReflectliteValue.unpack (args.getD 0 (.tuple #[]))) Ybaf.func34 (by kernel_rfl) (by kernel_rfl) (by kernel_rfl) (by kernel_rfl)
  have h7 := @run_callFunc_extern Ybaf.prog 35 _ (ReflectliteValue.methodAny (ReflectliteValue.valueError "reflectlite.Value.Type" 0) (fun t _ _ _ => ReflectliteType.toType t)) Ybaf.func35 (by kernel_rfl) (by kernel_rfl) (by kernel_rfl) (by kernel_rfl)
  have h8 := @run_callFunc_extern Ybaf.prog 36 _ (ReflectliteValue.method (ReflectliteValue.valueError "reflectlite.Value.IsNil" 0) ReflectliteValue.isNil) Ybaf.func36 (by kernel_rfl) (by kernel_rfl) (by kernel_rfl) (by kernel_rfl)
  have h27 := @run_callFunc_extern Ybaf.prog 56 _ (ReflectliteType.abiMethod fun t => do pure (.int .u8 (← Rtype.kind t))) Ybaf.func56 (by kernel_rfl) (by kernel_rfl) (by kernel_rfl) (by kernel_rfl)
  have h37 := @run_callFunc_extern Ybaf.prog 78 _ (ReflectliteType.method ReflectliteType.elem) Ybaf.func78 (by kernel_rfl) (by kernel_rfl) (by kernel_rfl) (by kernel_rfl)
  have h38 := @run_callFunc_extern Ybaf.prog 79 _ (ReflectliteType.relation "Implements" ReflectliteType.implements_) Ybaf.func79 (by kernel_rfl) (by kernel_rfl) (by kernel_rfl) (by kernel_rfl)
  have h10 := @run_callFunc_extern Ybaf.prog 39 _ ReflectliteType.typeOf Ybaf.func39 (by kernel_rfl) (by kernel_rfl) (by kernel_rfl) (by kernel_rfl)
  have h35 := @run_callFunc_extern Ybaf.prog 76 _ (ReflectliteType.relation "AssignableTo" ReflectliteType.assignableTo) Ybaf.func76 (by kernel_rfl) (by kernel_rfl) (by kernel_rfl) (by kernel_rfl)
  have tO := Ybaf.typeOf66
  have mA := Ybaf.methodAssignableTo
  have a25 := Ybaf.assignable66
  have x1 := Ybaf.noAs66
  have x2 := Ybaf.noUnwrap66
  have x3 := Ybaf.noUnwraps66
  have f6 := Ybaf.valueOf27
  have f7 := Ybaf.type27
  have mK := Ybaf.methodKind
  have mE := Ybaf.methodElem
  have mI := Ybaf.methodImplements
  have k27 := Ybaf.kind27
  have k25 := Ybaf.kind25
  have e27 := Ybaf.elem27
  have i25 := Ybaf.implements25
  have n8 := Ybaf.isNil27 ⟨w.heap.size, 0, none⟩ t ((w.alloc (.cells #[.pointer (some t)] 85)).alloc (.cells #[.pointer (some ⟨1, 85, none⟩), .pointer (some ⟨w.heap.size, 0, none⟩), .int .u64 150] 102)) (by simp)
  have hlt : 0 < w.heap.size := by
    rcases Nat.eq_zero_or_pos w.heap.size with h0 | h
    · simp [World.cell?, h0] at hg
    · exact h
  have hg2 : ((w.alloc (.cells #[.pointer (some t)] 85)).alloc (.cells #[.pointer (some ⟨1, 85, none⟩), .pointer (some ⟨w.heap.size, 0, none⟩), .int .u64 150] 102)).cell? ⟨0, 0, none⟩ = some (.iface 113 (.agg #[.pointer (some ⟨1, 38, none⟩)])) := by
    rw [World.cell?_alloc_lt _ _ ⟨0, 0, none⟩ (by simp), World.cell?_alloc_lt _ _ ⟨0, 0, none⟩ hlt]; exact hg
  go_enter Ybaf.func25, Ybaf.ntmps25
  go_wp2
  refine wp_loop_rounds 1 ?_
  rw [rounds_succ]
  go_wp2
  go_ret
  exact ⟨rfl, rfl⟩
end Go.Proofs.YbulkcegsFmt
