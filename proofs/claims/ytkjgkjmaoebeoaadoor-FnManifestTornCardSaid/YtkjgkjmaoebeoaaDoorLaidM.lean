/-
  What the listed variables hold where a law begins: pointers to errors of the library.
-/
import Derived.Test.YtkjgkjmaoebeoaaDoorMgs
import Derived.LaidLaws
import Derived.LaidSub
import Derived.MakeChecks
namespace Go.Proofs.YtkjgkjmaoebeoaaDoor
open Go Go.RowKit Go.ChangeShapes
open Go.Proofs

theorem errStar : "*" ++ "errors.errorString" = "*errors.errorString" := by decide
theorem errRow : ∀ u, Tryd.prog.typeName? 3 u = some "*errors.errorString" → u = 119 := fun u h =>
  typeName_ptr_named (nm := "errors.errorString") (by rw [errStar]; kernel_rfl) (by kernel_rfl) (by decide) u (by rw [errStar]; exact h)
theorem errCells : Tryd.prog.cellsOf 121 = 1 := by kernel_rfl
theorem strCells : Tryd.prog.cellsOf 9 = 1 := by kernel_rfl

set_option maxRecDepth 20000 in
theorem sent_one {W : World} {n : String} {g : Nat} {text : List UInt8} (hg : Tryd.prog.globalNamed n = some g) (ht : (Tryd.prog.globals[g]?).map (·.type) = some 59)
    (h : laidMet Tryd.prog [(n, .iface "*errors.errorString" (.ptr (.agg [.lit (.string text)])))] W) : ∃ a, W.cell? ⟨g, 0, none⟩ = some (.iface 119 (.pointer (some a))) ∧ Pt W.heap.size W a := by
  obtain ⟨ps, ⟨g0, t0, cs0, f0, p0, q0, hg0, ht0, hv0, hd0, hq, e0⟩, hnd, hrows⟩ := h
  obtain rfl := Option.some.inj (hg.symm.trans hg0)
  obtain rfl := Option.some.inj (ht.symm.trans ht0)
  have hq' : q0 = [] := hq
  subst hq'
  subst e0
  obtain ⟨l0⟩ := cs0
  have ok0 : ∀ u v, l0 = [.iface u v] → Value.okWide Tryd.prog W .any 0 u v := fun u v e => by
    subst e
    exact (hrows g 0 (by simp [MemPlace.row])).2 u v (by simpa using World.var?_cell hg0 hv0 0)
  obtain ⟨a0, s0, rfl, hc0, hs0, hz0, rfl⟩ := errorString_of_trod Tryd.underlying59 errRow Tryd.underlying119 Tryd.underlying121 rfl rfl Tryd.underlying9 errCells strCells hd0 ok0
  obtain ⟨c0, t0, hb0⟩ := (hrows a0.block a0.off (by simp [MemPlace.row])).1
  exact ⟨a0, by simpa using World.var?_cell hg0 hv0 0, lt_of_block hb0, c0, t0, hb0⟩

theorem laid_one {W : World} {l : List (String × DataW Unit)} (h : laidMetH Tryd.prog l W) (hp : (l.all fun x => x.2.handleName?.isNone) = true) (n : String) (d : DataW Unit) (hl : l.filter (fun x => x.1 == n) = [(n, d)]) : laidMet Tryd.prog [(n, d)] W := by
  rw [MakeChecks.laidMetH_plain _ _ _ hp] at h
  have := h.filter (fun x => x.1 == n)
  rwa [hl] at this
end Go.Proofs.YtkjgkjmaoebeoaaDoor
