/-
  More words on rows that are written piece by piece.
-/
import Derived.Test.YtkjgkjmaoebeoaaDoorTail
namespace Go.Proofs.YtkjgkjmaoebeoaaDoor
open Go Go.RowKit

/-- For a measure: no error yet. -/
def errOf : Value → Nat
  | .nilIface => 1
  | _ => 0

theorem splice_nil (P : List Value) (o : Nat) : splice P o [] = P := by simp [splice]
theorem splice_splice (P : List Value) (o : Nat) (a b : List Value) (h : o + a.length + b.length ≤ P.length) : splice (splice P o a) (o + a.length) b = splice P o (a ++ b) := by
  have h1 : (P.take o ++ a).length = o + a.length := by simp; omega
  simp only [splice]
  rw [← List.append_assoc (P.take o) a, List.take_left' h1]
  have h2 : List.drop (o + a.length + b.length) (P.take o ++ a ++ P.drop (o + a.length)) = P.drop (o + (a ++ b).length) := by
    rw [show o + a.length + b.length = (P.take o ++ a).length + b.length by rw [h1], ← List.drop_drop, List.drop_left, List.drop_drop]
    congr 1
    simp
    omega
  rw [h2]
  simp
end Go.Proofs.YtkjgkjmaoebeoaaDoor
