/-
  What the listed errors of the library and of the package hold: pointers of one type.
-/
import Derived.Test.YtkjgkjmaoebeoaaDoorRows
import Derived.Test.YtkjgkjmaoebeoaaDoorCh
import Derived.LaidEql
namespace Go.Proofs.YtkjgkjmaoebeoaaDoor
open Go Go.RowKit
open Go.Proofs

/-- A listed error. -/
def Sent (w : World) (g : Nat) : Prop := ∃ a, w.cell? ⟨g, 0, none⟩ = some (.iface 119 (.pointer (some a)))

/-- The listed errors that reading comes to. -/
structure Gl (w : World) : Prop where
  eof : Sent w 3
  un : Sent w 4
  tr : Sent w 5

/-- The listed errors' variables lie below this number. -/
abbrev glN : Nat := max (max 3 4) 5 + 1

theorem Sent.lt {w : World} {g : Nat} (h : Sent w g) : g < w.heap.size := by
  obtain ⟨a, h⟩ := h
  exact block_lt_of_cell h
theorem Sent.ch {S : List Nat} {w w' : World} {g : Nat} (h : Sent w g) (hc : Ch S w w') (hg : g ∉ S) : Sent w' g := by
  obtain ⟨a, h⟩ := h
  exact ⟨a, (hc.cell 0 (block_lt_of_cell h) hg).trans h⟩
theorem Gl.ch {S : List Nat} {w w' : World} (h : Gl w) (hc : Ch S w w') (hS : ∀ k, k ∈ S → glN ≤ k) : Gl w' :=
  ⟨h.eof.ch hc (fun hm => by have := hS _ hm; unfold glN at this; omega), h.un.ch hc (fun hm => by have := hS _ hm; unfold glN at this; omega), h.tr.ch hc (fun hm => by have := hS _ hm; unfold glN at this; omega)⟩
end Go.Proofs.YtkjgkjmaoebeoaaDoor
