/-
  The hash of keys in filters, on lists of bytes: plain Lean, no program.
-/
import Derived.Lib.Endian
namespace Go.Proofs.Ytakpiopiboipnaa
open Go

/-- Four bytes more. -/
def hashWord (h x : Nat) : Nat := ((h + x) % 4294967296 * 3332679571 % 4294967296) ^^^ ((h + x) % 4294967296 * 3332679571 % 4294967296 / 65536)
/-- All whole words, and what is left. -/
def hashAll : Nat → List UInt8 → Nat × List UInt8
  | h, a :: b :: c :: d :: r => hashAll (hashWord h (Lib.leNat [a, b, c, d])) r
  | h, r => (h, r)
/-- The end, where something is left. -/
def hashFin (h : Nat) : Nat := (h * 3332679571 % 4294967296) ^^^ (h * 3332679571 % 4294967296 / 16777216)
def hashTail (h : Nat) : List UInt8 → Nat
  | [a] => hashFin ((h + a.toNat) % 4294967296)
  | [a, b] => hashFin ((h + b.toNat * 256 + a.toNat) % 4294967296)
  | [a, b, c] => hashFin ((h + c.toNat * 65536 + b.toNat * 256 + a.toNat) % 4294967296)
  | _ => h
def hashSeed (n : Nat) : Nat := 3164544308 ^^^ (n % 4294967296 * 3332679571 % 4294967296)
def keyHash (l : List UInt8) : Nat := hashTail (hashAll (hashSeed l.length) l).1 (hashAll (hashSeed l.length) l).2

theorem hashWord_lt (h x : Nat) : hashWord h x < 4294967296 := Nat.xor_lt_two_pow (n := 32) (by omega) (by omega)
theorem hashFin_lt (h : Nat) : hashFin h < 4294967296 := Nat.xor_lt_two_pow (n := 32) (by omega) (by omega)
theorem hashSeed_lt (n : Nat) : hashSeed n < 4294967296 := Nat.xor_lt_two_pow (n := 32) (by omega) (by omega)
theorem hashAll_short (h : Nat) (r : List UInt8) (hr : r.length < 4) : hashAll h r = (h, r) := by
  match r, hr with
  | [], _ => rfl
  | [_], _ => rfl
  | [_, _], _ => rfl
  | [_, _, _], _ => rfl
end Go.Proofs.Ytakpiopiboipnaa
