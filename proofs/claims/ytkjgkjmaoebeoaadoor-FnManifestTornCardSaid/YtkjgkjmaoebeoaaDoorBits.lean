/-
  Complement of unsigned numbers, as the model reckons it.
-/
import Derived.Laws.BitsAllLaws
namespace Go.Proofs.YtkjgkjmaoebeoaaDoor
open Go

theorem u64_not (n : Nat) (h : n < 18446744073709551616) : bits .xor .u64 IntKind.u64.max (n : Int) = ((18446744073709551615 - n : Nat) : Int) := by
  have hm : IntKind.u64.max = ((18446744073709551615 : Nat) : Int) := by decide
  rw [hm, u64_xor_nat _ _ (by omega) h]
  congr 1
  have h1 := BitVec.toNat_not (x := BitVec.ofNat 64 n)
  rw [← BitVec.allOnes_xor, BitVec.toNat_xor, BitVec.toNat_allOnes, BitVec.toNat_ofNat, Nat.mod_eq_of_lt (by omega)] at h1
  exact h1

theorem u32_not (n : Nat) (h : n < 4294967296) : bits .xor .u32 IntKind.u32.max (n : Int) = ((4294967295 - n : Nat) : Int) := by
  have hm : IntKind.u32.max = ((4294967295 : Nat) : Int) := by decide
  rw [hm, u32_xor_nat _ _ (by omega) h]
  congr 1
  have h1 := BitVec.toNat_not (x := BitVec.ofNat 32 n)
  rw [← BitVec.allOnes_xor, BitVec.toNat_xor, BitVec.toNat_allOnes, BitVec.toNat_ofNat, Nat.mod_eq_of_lt (by omega)] at h1
  exact h1
end Go.Proofs.YtkjgkjmaoebeoaaDoor
