/-
  CRC-32C on lists of bytes: plain Lean, no program.
-/
namespace Go.Proofs.YtkjgkjmaoebeoaaDoor

/-- One bit of the check. -/
def crcBit (s : Nat) : Nat := if s % 2 = 1 then s / 2 ^^^ 2197175160 else s / 2
/-- j bits. -/
def crcBits : Nat → Nat → Nat
  | 0, s => s
  | j + 1, s => crcBit (crcBits j s)
/-- One byte. -/
def crcByte (s : Nat) (b : UInt8) : Nat := crcBits 8 (s ^^^ b.toNat)
/-- Some bytes, from a state on. -/
def crcRun (s : Nat) (l : List UInt8) : Nat := l.foldl crcByte s
/-- A sum to which bytes are added. -/
def crcMore (x : Nat) (l : List UInt8) : Nat := 4294967295 - crcRun (4294967295 - x) l
/-- CRC-32C. -/
def crc32 (l : List UInt8) : Nat := 4294967295 - crcRun 4294967295 l

theorem crcBit_lt (s : Nat) (h : s < 4294967296) : crcBit s < 4294967296 := by
  unfold crcBit
  split
  · exact Nat.xor_lt_two_pow (n := 32) (by omega) (by omega)
  · omega
theorem crcBits_lt (j s : Nat) (h : s < 4294967296) : crcBits j s < 4294967296 := by
  induction j with
  | zero => exact h
  | succ j ih => exact crcBit_lt _ ih
theorem crcXor_lt (s : Nat) (b : UInt8) (h : s < 4294967296) : s ^^^ b.toNat < 4294967296 := by
  have := b.toNat_lt
  exact Nat.xor_lt_two_pow (n := 32) (by omega) (by omega)
theorem crcByte_lt (s : Nat) (b : UInt8) (h : s < 4294967296) : crcByte s b < 4294967296 := crcBits_lt _ _ (crcXor_lt s b h)
theorem crcRun_lt (l : List UInt8) : ∀ s, s < 4294967296 → crcRun s l < 4294967296 := by
  induction l with
  | nil => exact fun s h => h
  | cons b l ih => exact fun s h => ih _ (crcByte_lt s b h)
theorem crcRun_append (s : Nat) (l m : List UInt8) : crcRun s (l ++ m) = crcRun (crcRun s l) m := by simp [crcRun]
theorem crcRun_snoc (s : Nat) (l : List UInt8) (b : UInt8) : crcRun s (l ++ [b]) = crcByte (crcRun s l) b := by simp [crcRun]
theorem crcRun_take (s : Nat) (l : List UInt8) (k : Nat) (h : k < l.length) : crcRun s (l.take (k + 1)) = crcByte (crcRun s (l.take k)) l[k] := by
  rw [List.take_succ_eq_append_getElem h, crcRun_snoc]
theorem crcMore_lt (x : Nat) (l : List UInt8) : crcMore x l < 4294967296 := by unfold crcMore; omega
theorem crc32_lt (l : List UInt8) : crc32 l < 4294967296 := by unfold crc32; omega
theorem crcMore_zero (l : List UInt8) : crcMore 0 l = crc32 l := rfl
theorem crcMore_append (x : Nat) (l m : List UInt8) (hx : x < 4294967296) : crcMore (crcMore x l) m = crcMore x (l ++ m) := by
  have h := crcRun_lt l (4294967295 - x) (by omega)
  unfold crcMore
  rw [crcRun_append]
  congr 2
  omega
end Go.Proofs.YtkjgkjmaoebeoaaDoor
