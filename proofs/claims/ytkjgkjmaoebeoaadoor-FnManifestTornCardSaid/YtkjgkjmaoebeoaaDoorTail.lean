/-
  A region that draws its order, all of whose operations but the last few only read: the world behind the draw is written 'w.drew'.
-/
import Derived.Test.YtkjgkjmaoebeoaaDoorCh
import Derived.StillTailTactics
namespace Go.Proofs.YtkjgkjmaoebeoaaDoor
open Go Go.RowKit

theorem wp_tail {P : Program} {id : Nat} {Q : Exit → Act → World → Prop} {a : Act} {w : World} {l : List Oper} (n : Nat) (hm : P.follows .mixedOrders = true) (hB : Region.lexTailB .any l.toArray n = true)
    (h : wpStill P l.toArray w.drew (fun a' => wpList P l.toArray Q (l.drop n) a' w.drew) (l.take n) a) : (Code.region id l.toArray true).wp P Q a w :=
  wp_region_still_tail n hm hB h

section
variable {P : Program} {w : World} {ops : Array Oper} {rest : List Oper} {o : Oper} {a : Act} {Q : Exit → Act → World → Prop}
theorem wpList_copyK (hg : o.guard = none) (d s : Operand) (dT sT : TypeId) (hop : o.op = Op.call { callee := .builtin .copy, args := #[d, s], argTypes := #[dT, sT] })
    (e : TypeId) (hu : P.underlying dT = some (.slice e)) (hsz : (P.info? e).map (·.size) = some 1)
    (g off dLen dCap : Nat) (hd : a.eval d = .slice (some ⟨g, off, none⟩) dLen dCap) (A : Option Addr) (m c : Nat) (hs : a.eval s = .slice A m c) (src : List UInt8) (hsrc : Src w A m src)
    (L : List Value) (t : TypeId) (hb : Bk w g t L.toArray) (k : Nat) (hk : min m dLen = k) (hfit : off + k ≤ L.length)
    (hK : ∀ w', Bk w' g t (splice L off (Lib.byteCells (src.take dLen))).toArray → Ch [g] w w' → wpList P ops Q rest (a.put o.dst (.int .i64 (k : Int))) w') :
    wpList P ops Q (o :: rest) a w := by
  subst hk
  exact wpList_copyB hg d s dT sT hop e hu hsz g off dLen dCap hd A m c hs src hsrc L t hb hfit fun w' h1 h2 => hK w' h1 (Ch.of_grown h2)
end

theorem bs_front_ {W : World} {q : Nat} {t : TypeId} {l : List UInt8} {L : List Value} (hk : Bk W q t (splice L 0 (Lib.byteCells l)).toArray) : Bs W q 0 l := by
  intro j hj
  rw [hk.cell]
  have h22 : (splice L 0 (Lib.byteCells l))[j]? = some (.int .u8 ((l[j]).toNat : Int)) := by
    simp only [splice, List.take_zero, List.nil_append]
    rw [List.getElem?_append_left (by simpa [Lib.byteCells] using hj)]
    simp [Lib.byteCells, hj]
  simpa using h22

theorem splice_at (L : List Value) (o j : Nat) (r : List Value) (hj : j < r.length) (ho : o ≤ L.length) : (splice L o r)[o + j]? = r[j]? := by
  simp only [splice]
  rw [List.getElem?_append_right (by simp; omega), List.getElem?_append_left (by simp; omega)]
  congr 1
  simp
  omega

theorem splice_length (L : List Value) (o : Nat) (r : List Value) (h : o + r.length ≤ L.length) : (splice L o r).length = L.length := by
  simp [splice]
  omega

theorem bs_splice {W : World} {g : Nat} {t : TypeId} {l : List UInt8} {P : List Value} {off : Nat} (hk : Bk W g t (splice P off (Lib.byteCells l)).toArray) (ho : off ≤ P.length) : Bs W g off l := by
  intro j hj
  rw [hk.cell]
  have : (splice P off (Lib.byteCells l))[off + j]? = some (.int .u8 ((l[j]).toNat : Int)) := by
    rw [splice_at _ _ _ _ (by simpa [Lib.byteCells] using hj) ho, List.getElem?_eq_getElem (by simpa [Lib.byteCells] using hj)]
    simp [Lib.byteCells]
  simpa using this

theorem res2_tmp {fn : Func} {t u : Tmp} (h : fn.results = #[.tmp t, .tmp u]) (tmps : Array Value) (P : Program) (w : World) :
    (results fn tmps).run P w = .ok (.tuple #[tmps.getD t undef, tmps.getD u undef]) w := by simp [results, h]
end Go.Proofs.YtkjgkjmaoebeoaaDoor
