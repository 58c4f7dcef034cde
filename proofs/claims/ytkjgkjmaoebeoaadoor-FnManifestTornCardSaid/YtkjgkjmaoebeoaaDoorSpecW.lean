/-
  Small words on worlds that keep what lies below a number.
-/
import Derived.Test.YtkjgkjmaoebeoaaDoorMem
namespace Go.Proofs.YtkjgkjmaoebeoaaDoor
open Go Go.RowKit
theorem below_drew_ {B : Nat} {a w : World} (h : Below B a w) : Below B a w.drew := ⟨h.os, h.tape, h.output, h.size, h.block⟩
theorem below_alloc_ {w W : World} (h : Below w.heap.size w W) (o : Obj) : Below w.heap.size w (W.alloc o) := h.alloc h.size o
theorem below_call_ {w W W' : World} (h2 : Below W.heap.size W W') (h : Below w.heap.size w W) : Below w.heap.size w W' := below_step h h.size h2
end Go.Proofs.YtkjgkjmaoebeoaaDoor
