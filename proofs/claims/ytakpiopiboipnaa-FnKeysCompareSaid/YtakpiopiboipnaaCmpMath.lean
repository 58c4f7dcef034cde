/-
  The order of bytes and of keys with versions: plain Lean, no program.
-/
import Derived.Lib.Bytealg
import Derived.Lib.EndianMore
import Derived.Test.YtakpiopiboipnaaKeyMath
namespace Go.Proofs.Ytakpiopiboipnaa
open Go
open Go.Lib (compareBytes)

theorem cmp_cases : ∀ (a b : List UInt8), compareBytes a b = if Op.bytesLess a b = true then -1 else if Op.bytesLess b a = true then 1 else 0
  | [], [] => rfl
  | [], _ :: _ => rfl
  | _ :: _, [] => rfl
  | a :: x, b :: y => by
    rw [compareBytes, cmp_cases x y, Op.bytesLess, Op.bytesLess]
    by_cases h1 : a < b
    · simp [h1]
    · by_cases h2 : b < a
      · have hne : a ≠ b := by rintro rfl; exact h1 h2
        simp [h1, h2, hne]
      · have he : a = b := by
          have e1 := UInt8.not_lt.1 h1
          have e2 := UInt8.not_lt.1 h2
          exact UInt8.le_antisymm e2 e1
        subst he
        simp [h1]

theorem less_irrefl : ∀ (a : List UInt8), Op.bytesLess a a = false
  | [] => rfl
  | a :: x => by rw [Op.bytesLess, less_irrefl x]; simp [UInt8.lt_irrefl]

theorem cmp_self (a : List UInt8) : compareBytes a a = 0 := by rw [cmp_cases, less_irrefl]; rfl

theorem cmp_zero : ∀ (a b : List UInt8), compareBytes a b = 0 → a = b
  | [], [], _ => rfl
  | [], _ :: _, h => by simp [compareBytes] at h
  | _ :: _, [], h => by simp [compareBytes] at h
  | a :: x, b :: y, h => by
    rw [compareBytes] at h
    by_cases h1 : a < b
    · simp [h1] at h
    · by_cases h2 : b < a
      · simp [h1, h2] at h
      · rw [if_neg h1, if_neg h2] at h
        rw [cmp_zero x y h, UInt8.le_antisymm (UInt8.not_lt.1 h2) (UInt8.not_lt.1 h1)]

theorem less_ne {a b : List UInt8} (h : Op.bytesLess a b = true) : (a == b) = false ∧ (b == a) = false := by
  have hne : a ≠ b := by
    rintro rfl
    rw [less_irrefl] at h
    cases h
  exact ⟨beq_eq_false_iff_ne.2 hne, beq_eq_false_iff_ne.2 hne.symm⟩

theorem eq_of_not_less {a b : List UInt8} (h1 : ¬ Op.bytesLess a b = true) (h2 : ¬ Op.bytesLess b a = true) : a = b := by
  have h0 := cmp_cases a b
  rw [if_neg h1, if_neg h2] at h0
  exact cmp_zero _ _ h0

theorem cmp_neg : ∀ (a b : List UInt8), compareBytes b a = - compareBytes a b
  | [], [] => rfl
  | [], _ :: _ => rfl
  | _ :: _, [] => rfl
  | a :: x, b :: y => by
    rw [compareBytes, compareBytes, cmp_neg x y]
    by_cases h1 : a < b
    · have h2 : ¬ b < a := fun h => UInt8.lt_irrefl a (UInt8.lt_trans h1 h)
      simp [h1, h2]
    · by_cases h2 : b < a
      · simp [h1, h2]
      · simp [h1, h2]

theorem beNat_cons (b : UInt8) (r : List UInt8) : Lib.beNat (b :: r) = b.toNat * 256 ^ r.length + Lib.beNat r := by
  rw [Lib.beNat_eq, Lib.beNat_eq, List.reverse_cons, Lib.leNat_append]
  simp [Lib.leNat, Nat.mul_comm, Nat.add_comm]

/-- Bytes of one length are in the order of their numbers, the greatest first. -/
theorem cmp_be : ∀ (l m : List UInt8), l.length = m.length → compareBytes l m = if Lib.beNat l < Lib.beNat m then -1 else if Lib.beNat m < Lib.beNat l then 1 else 0
  | [], [], _ => by simp [compareBytes]
  | a :: x, b :: y, h => by
    have hl : x.length = y.length := by simpa using h
    have ih := cmp_be x y hl
    have bx := beNat_lt x
    have b_y := beNat_lt y
    rw [hl] at bx
    rw [compareBytes, beNat_cons, beNat_cons, hl, ih]
    generalize 256 ^ y.length = p at *
    by_cases h1 : a < b
    · have h1' : a.toNat + 1 ≤ b.toNat := UInt8.lt_iff_toNat_lt.1 h1
      have := Nat.mul_le_mul_right p h1'
      rw [Nat.add_mul, Nat.one_mul] at this
      rw [if_pos h1, if_pos (by omega)]
    · by_cases h2 : b < a
      · have h2' : b.toNat + 1 ≤ a.toNat := UInt8.lt_iff_toNat_lt.1 h2
        have := Nat.mul_le_mul_right p h2'
        rw [Nat.add_mul, Nat.one_mul] at this
        rw [if_neg h1, if_pos h2, if_neg (by omega), if_pos (by omega)]
      · have he : a = b := UInt8.le_antisymm (UInt8.not_lt.1 h2) (UInt8.not_lt.1 h1)
        subst he
        rw [if_neg h1, if_neg h1]
        simp only [Nat.add_lt_add_iff_left]

/-- The order of keys with versions (of eight bytes at least). -/
def keyCmp (a b : List UInt8) : Int :=
  if compareBytes (a.take (a.length - 8)) (b.take (b.length - 8)) = 0 then compareBytes (a.drop (a.length - 8)) (b.drop (b.length - 8)) else compareBytes (a.take (a.length - 8)) (b.take (b.length - 8))

/-- By the keys, and then the newer one is less. -/
def wantCmp (a b : List UInt8) (x y : Nat) : Int :=
  if Op.bytesLess a b = true then -1 else if Op.bytesLess b a = true then 1 else if y < x then -1 else if x < y then 1 else 0

theorem keyCmp_keyTs (a b : List UInt8) (x y : Nat) (hx : x < 18446744073709551616) (hy : y < 18446744073709551616) : keyCmp (keyTs a x) (keyTs b y) = wantCmp a b x y := by
  unfold keyCmp wantCmp
  rw [keyTs_length, keyTs_length, Nat.add_sub_cancel, Nat.add_sub_cancel, keyTs_take, keyTs_take, keyTs_drop, keyTs_drop, cmp_be (Lib.beBytes 8 _) (Lib.beBytes 8 _) (by simp [Lib.beBytes_length]),
    Lib.beNat_beBytes 8 _ (by omega), Lib.beNat_beBytes 8 _ (by omega), cmp_cases a b]
  by_cases h1 : Op.bytesLess a b = true
  · simp [h1]
  · by_cases h2 : Op.bytesLess b a = true
    · simp [h1, h2]
    · rw [if_neg h1, if_neg h2, if_pos rfl, if_neg h1, if_neg h2]
      by_cases h3 : y < x
      · rw [if_pos (by omega), if_pos h3]
      · rw [if_neg (by omega), if_neg h3]
        by_cases h4 : x < y
        · rw [if_pos (by omega), if_pos h4]
        · rw [if_neg (by omega), if_neg h4]

theorem keyCmp_neg (a b : List UInt8) : keyCmp b a = - keyCmp a b := by
  unfold keyCmp
  rw [cmp_neg (a.take (a.length - 8)) (b.take (b.length - 8)), cmp_neg (a.drop (a.length - 8)) (b.drop (b.length - 8))]
  by_cases h : compareBytes (a.take (a.length - 8)) (b.take (b.length - 8)) = 0
  · simp [h]
  · rw [if_neg h, if_neg (by omega)]
end Go.Proofs.Ytakpiopiboipnaa
