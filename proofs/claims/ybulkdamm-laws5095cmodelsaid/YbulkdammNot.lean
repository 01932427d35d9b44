import Derived.Test.YbulkdammFrame
namespace Go.Proofs.Ybulkdamm
open Go Go.RowKit
/-- The complement of a number that is not negative. -/
theorem i32_not (a : Nat) (ha : a < 2147483648) : bits .xor .i32 (-1) (a : Int) = -(a : Int) - 1 := by
  show IntKind.i32.wrap ((BitVec.ofInt 32 (-1) ^^^ BitVec.ofInt 32 (a : Int)).toNat : Int) = _
  have h1 : BitVec.ofInt 32 (-1) = BitVec.allOnes 32 := by decide
  have h2 : (BitVec.ofInt 32 (a : Int)).toNat = a := by simp; omega
  rw [h1, BitVec.allOnes_xor, BitVec.toNat_not, h2]
  simp [IntKind.wrap, IntKind.bits, IntKind.signed]
  omega
/-- .. and back. -/
theorem i32_back (a : Nat) (ha : a < 2147483647) : bits .xor .i32 (-1) (-(a : Int) - 1) = (a : Int) := by
  show IntKind.i32.wrap ((BitVec.ofInt 32 (-1) ^^^ BitVec.ofInt 32 (-(a : Int) - 1)).toNat : Int) = _
  have h1 : BitVec.ofInt 32 (-1) = BitVec.allOnes 32 := by decide
  have h2 : (BitVec.ofInt 32 (-(a : Int) - 1)).toNat = 4294967295 - a := by rw [BitVec.toNat_ofInt]; omega
  rw [h1, BitVec.allOnes_xor, BitVec.toNat_not, h2]
  simp [IntKind.wrap, IntKind.bits, IntKind.signed]
  omega
end Go.Proofs.Ybulkdamm
