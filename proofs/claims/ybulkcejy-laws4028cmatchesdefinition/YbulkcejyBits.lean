import Derived.Test.YbulkcejyFlow
import Derived.WalkKit
import Derived.WalkSpells
namespace Go.Proofs.Ybulkcejy
theorem xor_pt (a : Nat) : a ^^^ 1 = pt a := by
  apply Nat.eq_of_testBit_eq
  intro i
  rw [Nat.testBit_xor]
  cases i with
  | zero =>
    rw [Nat.testBit_zero, Nat.testBit_zero, Nat.testBit_zero]
    unfold pt
    split
    · rename_i h
      have h1 : ¬ a % 2 = 1 := by omega
      have h2 : (a + 1) % 2 = 1 := by omega
      simp [h1, h2]
    · rename_i h
      have h1 : a % 2 = 1 := by omega
      have h2 : ¬ (a - 1) % 2 = 1 := by omega
      simp [h1, h2]
  | succ i =>
    rw [Nat.testBit_succ, Nat.testBit_succ, Nat.testBit_succ, show 1 / 2 = 0 from rfl, Nat.zero_testBit, Bool.xor_false]
    have : pt a / 2 = a / 2 := by unfold pt; split <;> omega
    rw [this]
theorem wrap_small (n : Nat) (h : n < 9223372036854775808) : IntKind.wrap .i64 (n : Int) = n := by
  have hb : IntKind.i64.bits = 64 := rfl
  simp only [IntKind.wrap, hb]
  simp
  omega
theorem run_xor1 (a : Nat) (h : a < 4611686018427387904) (w : World) : (binOp .xor 3 (.int .i64 a) (.int .i64 1)).run Yba.prog w = .ok (.int .i64 (pt a)) w := by
  have hp : pt a < 9223372036854775808 := by unfold pt; split <;> omega
  have e : (BitVec.ofInt 64 (a : Int) ^^^ BitVec.ofInt 64 1).toNat = pt a := by
    rw [BitVec.toNat_xor, ← xor_pt]
    congr 1
    simp
    omega
  have e2 := wrap_small (pt a) hp
  show Result.ok (Value.int .i64 (IntKind.wrap .i64 ((BitVec.ofInt 64 (a : Int) ^^^ BitVec.ofInt 64 1).toNat : Int))) w = _
  rw [e, e2]
theorem bits_xor1 (a : Nat) (h : a < 4611686018427387904) : bits .xor .i64 (a : Int) 1 = (pt a : Int) := by
  have hp : pt a < 9223372036854775808 := by unfold pt; split <;> omega
  have e : (BitVec.ofInt 64 (a : Int) ^^^ BitVec.ofInt 64 1).toNat = pt a := by
    rw [BitVec.toNat_xor, ← xor_pt]
    congr 1
    simp
    omega
  show IntKind.wrap .i64 ((BitVec.ofInt 64 (a : Int) ^^^ BitVec.ofInt 64 1).toNat : Int) = _
  rw [e, wrap_small (pt a) hp]
end Go.Proofs.Ybulkcejy
