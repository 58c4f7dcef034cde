/-
  Numbers in bytes of seven bits, read back; headers: plain Lean, no program.
-/
import Derived.Lib.Varint
import Derived.Lib.VarintDec
namespace Go.Proofs.YtkjgkjmaoebeoaaDoor
open Go
open Go.Lib (uvarint uvarintFrom uvarintDec)

theorem toU8 {a : Nat} (h : a < 256) : (a.toUInt8).toNat = a := by
  simp [Nat.toUInt8, UInt8.toNat_ofNat', Nat.mod_eq_of_lt h]

theorem uvarintFrom_uvarint (r : List UInt8) : ∀ (k i acc x : Nat), i + k = 9 → acc < 2 ^ (7 * i) → acc + x * 2 ^ (7 * i) < 18446744073709551616 → x < 128 ^ (k + 1) →
    uvarintFrom i acc (uvarint x ++ r) = (acc + x * 2 ^ (7 * i), ((i + (uvarint x).length : Nat) : Int)) := by
  intro k
  induction k with
  | zero =>
    intro i acc x hi ha hx hk
    have hx1 : x < 128 := by simpa using hk
    obtain rfl : i = 9 := by omega
    rw [Lib.uvarint_small hx1]
    have ht : (x.toUInt8).toNat = x := toU8 (by omega)
    have h1 : x ≤ 1 := by
      have e : (2 : Nat) ^ (7 * 9) = 9223372036854775808 := by decide
      rw [e] at hx
      omega
    simp only [List.cons_append, List.nil_append, uvarintFrom, ht]
    rw [if_neg (by omega), if_pos hx1, if_neg (by omega)]
    rfl
  | succ k ih =>
    intro i acc x hi ha hx hk
    by_cases hx1 : x < 128
    · rw [Lib.uvarint_small hx1]
      have ht : (x.toUInt8).toNat = x := toU8 (by omega)
      simp only [List.cons_append, List.nil_append, uvarintFrom, ht]
      rw [if_neg (by omega), if_pos hx1, if_neg (by omega)]
      rfl
    · rw [Lib.uvarint_big (by omega)]
      have ht : ((x % 128 + 128).toUInt8).toNat = x % 128 + 128 := toU8 (by omega)
      simp only [List.cons_append, uvarintFrom, ht]
      rw [if_neg (by omega), if_neg (by omega)]
      have hp : (2 : Nat) ^ (7 * (i + 1)) = 2 ^ (7 * i) * 128 := by rw [Nat.mul_add, Nat.pow_add]
      have hm : (x % 128 + 128) % 128 = x % 128 := by omega
      have hs : x * 2 ^ (7 * i) = x % 128 * 2 ^ (7 * i) + x / 128 * (2 ^ (7 * i) * 128) := by
        have hd := Nat.div_add_mod x 128
        conv => lhs; rw [← hd]
        rw [Nat.add_mul, Nat.mul_comm (2 ^ (7 * i)) 128, ← Nat.mul_assoc, Nat.mul_comm 128 (x / 128)]
        omega
      have hk' : x / 128 < 128 ^ (k + 1) := by
        rw [Nat.pow_succ] at hk
        exact Nat.div_lt_of_lt_mul (by rw [Nat.mul_comm]; exact hk)
      have hlt : acc + x % 128 * 2 ^ (7 * i) < 2 ^ (7 * (i + 1)) := by
        rw [hp]
        have h1 : x % 128 * 2 ^ (7 * i) ≤ 127 * 2 ^ (7 * i) := Nat.mul_le_mul_right _ (by omega)
        omega
      rw [hm, ih (i + 1) (acc + x % 128 * 2 ^ (7 * i)) (x / 128) (by omega) hlt (by rw [hp]; omega) hk', hp]
      simp only [List.length_cons, Prod.mk.injEq]
      exact ⟨by omega, by omega⟩

/-- What is written is what is read, whatever stands behind it. -/
theorem uvarintDec_uvarint (x : Nat) (r : List UInt8) (hx : x < 18446744073709551616) : uvarintDec (uvarint x ++ r) = (x, ((uvarint x).length : Int)) := by
  have h := uvarintFrom_uvarint r 9 0 0 x rfl (by decide) (by simpa using hx) (Nat.lt_of_lt_of_le hx (by decide))
  simpa [uvarintDec] using h

/-- A header's bytes. -/
def hdrBytes (k v x m u : Nat) : List UInt8 := m.toUInt8 :: u.toUInt8 :: (uvarint k ++ (uvarint v ++ uvarint x))

theorem uvarint_length32 {x : Nat} (h : x < 4294967296) : (uvarint x).length ≤ 5 := Lib.uvarint_length 4 x (Nat.lt_of_lt_of_le h (by decide))
theorem hdrBytes_length (k v x m u : Nat) : (hdrBytes k v x m u).length = 2 + (uvarint k).length + (uvarint v).length + (uvarint x).length := by
  simp [hdrBytes]; omega
end Go.Proofs.YtkjgkjmaoebeoaaDoor
