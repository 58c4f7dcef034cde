/-
  The bytes of changes: plain Lean.
-/
import Derived.Test.YtkjgkjmaoebeoaaDoorHdrMath
import Derived.Test.YtkjgkjmaoebeoaaDoorMac
namespace Go.Proofs.YtkjgkjmaoebeoaaDoor
open Go
open Go.Proofs
open Go.Lib (uvarint)

/-- A field, if its number is not 0. -/
def fldB (t : UInt8) (v : Nat) : List UInt8 := if v = 0 then [] else t :: uvarint v
def Chg.op (c : Chg) : Nat := if c.drop = true then 1 else 0
/-- A change's message. -/
def msgB (c : Chg) : List UInt8 := fldB 8 c.id ++ (fldB 16 c.op ++ fldB 24 c.lev)
def chgB (c : Chg) : List UInt8 := 10 :: (uvarint (msgB c).length ++ msgB c)
def bodyB (l : List Chg) : List UInt8 := l.flatMap chgB

theorem bodyB_append (l m : List Chg) : bodyB (l ++ m) = bodyB l ++ bodyB m := by simp [bodyB]
theorem bodyB_at {l : List Chg} {j : Nat} (h : j < l.length) : bodyB (l.drop j) = chgB l[j] ++ bodyB (l.drop (j + 1)) := by
  rw [List.drop_eq_getElem_cons h]
  show (l[j] :: l.drop (j + 1)).flatMap chgB = _
  rw [List.flatMap_cons]
  rfl
theorem bodyB_take {l : List Chg} {j : Nat} (h : j < l.length) : bodyB (l.take (j + 1)) = bodyB (l.take j) ++ chgB l[j] := by
  rw [List.take_add_one, bodyB_append]
  simp [bodyB, h]
theorem bodyB_split (l : List Chg) (j : Nat) : bodyB l = bodyB (l.take j) ++ bodyB (l.drop j) := by rw [← bodyB_append, List.take_append_drop]
theorem chgB_ne (c : Chg) : chgB c ≠ [] := by simp [chgB]
theorem bodyB_nil {l : List Chg} (h : bodyB l = []) : l = [] := by
  cases l with
  | nil => rfl
  | cons a r =>
    have h0 : chgB a ++ bodyB r = [] := by simpa [bodyB] using h
    exact absurd (List.append_eq_nil_iff.1 h0).1 (chgB_ne a)
theorem msgB_pos {c : Chg} (h : 1 ≤ c.id) : 0 < (msgB c).length := by
  unfold msgB fldB
  rw [if_neg (by omega)]
  simp
theorem chgB_length (c : Chg) : (chgB c).length = 1 + (uvarint (msgB c).length).length + (msgB c).length := by
  simp [chgB]; omega

/-- How far a message is read: what is left, what is set. -/
def Stg (X : Chg) (q : List UInt8) (i p l : Nat) : Prop :=
  (q = msgB X ∧ i = 0 ∧ p = 0 ∧ l = 0) ∨ (q = fldB 16 X.op ++ fldB 24 X.lev ∧ i = X.id ∧ p = 0 ∧ l = 0) ∨ (q = fldB 24 X.lev ∧ i = X.id ∧ p = X.op ∧ l = 0) ∨ (q = [] ∧ i = X.id ∧ p = X.op ∧ l = X.lev)

theorem stg3 {X : Chg} {q : List UInt8} {i p l : Nat} (h1 : q = fldB 24 X.lev) (h2 : i = X.id) (h3 : p = X.op) (h4 : l = 0) :
    (q = [] ∧ i = X.id ∧ p = X.op ∧ l = X.lev) ∨ (∃ q', q = 24 :: (uvarint X.lev ++ q') ∧ Stg X q' i p X.lev) := by
  unfold fldB at h1
  split at h1
  · rename_i h
    exact .inl ⟨h1, h2, h3, by rw [h4, h]⟩
  · exact .inr ⟨[], by rw [h1]; simp, .inr (.inr (.inr ⟨rfl, h2, h3, rfl⟩))⟩

theorem stg_next {X : Chg} {q : List UInt8} {i p l : Nat} (h : Stg X q i p l) (hid : 1 ≤ X.id) :
    (q = [] ∧ i = X.id ∧ p = X.op ∧ l = X.lev) ∨ (∃ q', q = 8 :: (uvarint X.id ++ q') ∧ Stg X q' X.id p l) ∨ (∃ q', q = 16 :: (uvarint X.op ++ q') ∧ Stg X q' i X.op l) ∨ (∃ q', q = 24 :: (uvarint X.lev ++ q') ∧ Stg X q' i p X.lev) := by
  rcases h with ⟨h1, h2, h3, h4⟩ | ⟨h1, h2, h3, h4⟩ | ⟨h1, h2, h3, h4⟩ | ⟨h1, h2, h3, h4⟩
  · refine .inr (.inl ⟨fldB 16 X.op ++ fldB 24 X.lev, ?_, .inr (.inl ⟨rfl, rfl, h3, h4⟩)⟩)
    rw [h1, msgB, fldB, if_neg (by omega)]
    simp
  · by_cases ho : X.op = 0
    · rw [ho, fldB, if_pos rfl, List.nil_append] at h1
      rcases stg3 h1 h2 (h3.trans ho.symm) h4 with h | h
      · exact .inl h
      · exact .inr (.inr (.inr h))
    · refine .inr (.inr (.inl ⟨fldB 24 X.lev, ?_, .inr (.inr (.inl ⟨rfl, h2, rfl, h4⟩))⟩))
      rw [h1, fldB, if_neg ho]
      simp
  · rcases stg3 h1 h2 h3 h4 with h | h
    · exact .inl h
    · exact .inr (.inr (.inr h))
  · exact .inl ⟨h1, h2, h3, h4⟩
end Go.Proofs.YtkjgkjmaoebeoaaDoor
