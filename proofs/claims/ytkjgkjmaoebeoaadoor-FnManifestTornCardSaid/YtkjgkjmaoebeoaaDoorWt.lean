/-
  A region that draws its order, all of whose operations but the last few only read.
-/
import Derived.Test.YtkjgkjmaoebeoaaDoorCh
import Derived.StillTailTactics
namespace Go.Proofs.YtkjgkjmaoebeoaaDoor
open Go Go.RowKit

theorem wp_tail {P : Program} {id : Nat} {Q : Exit → Act → World → Prop} {a : Act} {w : World} {l : List Oper} (n : Nat) (hm : P.follows .mixedOrders = true) (hB : Region.lexTailB .any l.toArray n = true)
    (h : wpStill P l.toArray w.drew (fun a' => wpList P l.toArray Q (l.drop n) a' w.drew) (l.take n) a) : (Code.region id l.toArray true).wp P Q a w :=
  wp_region_still_tail n hm hB h
end Go.Proofs.YtkjgkjmaoebeoaaDoor
