/-
  Keys with versions, as lists of bytes: plain Lean, no program.
-/
import Derived.Lib.Endian
import Derived.Lib.EndianMore
namespace Go.Proofs.YtjioghedokbgcaaDoor
open Go

/-- A key with its version behind it. -/
def keyTs (l : List UInt8) (ts : Nat) : List UInt8 := l ++ Lib.beBytes 8 (18446744073709551615 - ts)
/-- The version of a key. -/
def tsOf (l : List UInt8) : Nat := if l.length ≤ 8 then 0 else 18446744073709551615 - Lib.beNat (l.drop (l.length - 8))

theorem keyTs_length (l : List UInt8) (ts : Nat) : (keyTs l ts).length = l.length + 8 := by simp [keyTs, Lib.beBytes_length]
theorem keyTs_take (l : List UInt8) (ts : Nat) : (keyTs l ts).take l.length = l := by simp [keyTs]
theorem keyTs_drop (l : List UInt8) (ts : Nat) : (keyTs l ts).drop l.length = Lib.beBytes 8 (18446744073709551615 - ts) := by simp [keyTs]
theorem tsOf_keyTs (l : List UInt8) (ts : Nat) (h : ts < 18446744073709551616) (hl : l ≠ []) : tsOf (keyTs l ts) = ts := by
  have hl' : 0 < l.length := List.length_pos_iff.2 hl
  unfold tsOf
  rw [keyTs_length, if_neg (by omega), show l.length + 8 - 8 = l.length by omega, keyTs_drop, Lib.beNat_beBytes 8 _ (by omega)]
  omega
theorem beNat_lt : ∀ (l : List UInt8), Lib.beNat l < 256 ^ l.length := by
  intro l
  rw [Lib.beNat_eq, ← List.length_reverse]
  generalize l.reverse = r
  induction r with
  | nil => simp [Lib.leNat]
  | cons b r ih =>
    have := b.toNat_lt
    simp only [Lib.leNat, List.length_cons, Nat.pow_succ]
    omega
theorem tsOf_lt (l : List UInt8) : tsOf l < 18446744073709551616 := by
  unfold tsOf
  split <;> omega
end Go.Proofs.YtjioghedokbgcaaDoor
