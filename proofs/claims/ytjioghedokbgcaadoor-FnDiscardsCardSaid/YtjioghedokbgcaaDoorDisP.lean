/-
  Discard stats as bytes: sixteen a row. Plain Lean, no program.
-/
import Derived.Test.YtjioghedokbgcaaDoorMem
import Derived.Sort.Defs
namespace Go.Proofs.YtjioghedokbgcaaDoor
open Go

/-- A row: a file's number, how much. -/
def rowB (x : Nat × Nat) : List UInt8 := Lib.beBytes 8 x.1 ++ Lib.beBytes 8 x.2
theorem rowB_length (x : Nat × Nat) : (rowB x).length = 16 := by simp [rowB, Lib.beBytes_length]
def rowsB : List (Nat × Nat) → List UInt8
  | [] => []
  | x :: r => rowB x ++ rowsB r
theorem rowsB_length : ∀ (l : List (Nat × Nat)), (rowsB l).length = 16 * l.length := by
  intro l
  induction l with
  | nil => rfl
  | cons x r ih => rw [rowsB, List.length_append, rowB_length, ih, List.length_cons]; omega
theorem rowsB_append : ∀ (l r : List (Nat × Nat)), rowsB (l ++ r) = rowsB l ++ rowsB r := by
  intro l
  induction l with
  | nil => intro r; rfl
  | cons x l ih => intro r; simp [rowsB, ih]
theorem rowsB_at (l : List (Nat × Nat)) (rest : List UInt8) (j : Nat) (hj : j < l.length) : (rowsB l ++ rest).drop (16 * j) = rowB l[j] ++ (rowsB (l.drop (j + 1)) ++ rest) := by
  have h1 : l = l.take j ++ l[j] :: l.drop (j + 1) := by rw [← List.drop_eq_getElem_cons hj, List.take_append_drop]
  have h2 : (rowsB (l.take j)).length = 16 * j := by rw [rowsB_length, List.length_take]; congr 1; omega
  conv => lhs; rw [h1]
  rw [rowsB_append, rowsB, List.append_assoc, ← h2, List.drop_left, List.append_assoc]
theorem splice_mid {β : Type} (a m b v : List β) (h : v.length = m.length) : splice (a ++ (m ++ b)) a.length v = a ++ (v ++ b) := by
  unfold splice
  rw [List.take_left, h, ← List.drop_drop, List.drop_left, List.drop_left]
theorem rowsB_set (l : List (Nat × Nat)) (rest : List UInt8) (j : Nat) (hj : j < l.length) (x : Nat × Nat) : splice (rowsB l ++ rest) (16 * j) (rowB x) = rowsB (l.set j x) ++ rest := by
  have h1 : l = l.take j ++ l[j] :: l.drop (j + 1) := by rw [← List.drop_eq_getElem_cons hj, List.take_append_drop]
  have h2 : (rowsB (l.take j)).length = 16 * j := by rw [rowsB_length, List.length_take]; congr 1; omega
  have h3 : l.set j x = l.take j ++ x :: l.drop (j + 1) := by rw [List.set_eq_take_append_cons_drop, if_pos hj]
  have h4 : rowsB l ++ rest = rowsB (l.take j) ++ (rowB l[j] ++ (rowsB (l.drop (j + 1)) ++ rest)) := by
    conv => lhs; rw [h1]
    rw [rowsB_append, rowsB]
    simp
  rw [h4, h3, ← h2, splice_mid _ _ _ _ (by rw [rowB_length, rowB_length]), rowsB_append, rowsB]
  simp
theorem byteCells_splice (l v : List UInt8) (o : Nat) : splice (Lib.byteCells l) o (Lib.byteCells v) = Lib.byteCells (splice l o v) := by
  unfold splice Lib.byteCells
  simp [List.map_take, List.map_drop]

/-- Two rows exchanged: what three copies leave. -/
theorem rows_swp (d : Array (Nat × Nat)) (rest : List UInt8) (i j : Nat) (hi : i < d.size) (hj : j < d.size) :
    splice (splice (rowsB d.toList ++ rest) (16 * i) (rowB d[j]!)) (16 * j) (rowB d[i]!) = rowsB (Sort.swp d i j).toList ++ rest := by
  have e : (Sort.swp d i j).toList = (d.toList.set i d[j]!).set j d[i]! := by simp [Sort.swp]
  rw [rowsB_set d.toList rest i (by simpa using hi), rowsB_set _ rest j (by simpa using hj), e]
end Go.Proofs.YtjioghedokbgcaaDoor
