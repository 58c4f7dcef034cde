/-
  The law's own map from files to numbers.
-/
import Derived.Maps.OwnSet
import Derived.Maps.OwnOps
import Derived.Maps.Views
import Derived.Test.YtjioghedokbgcaaDoorDisZ
namespace Go.Proofs.YtjioghedokbgcaaDoor
open Go Go.RowKit Go.Maps
open Go.Proofs

theorem zeroI (w : World) : (zeroValue 2).run Tryd.prog w = .ok (.int .i64 0) w := by kernel_rfl
theorem keyedU : Keyed Tryd.prog 25 := int_keyed Tryd.underlying25
theorem wfU {g : Nat} (h : g < 4294967296) : (Lit.int .u32 (g : Int)).wf = true := WalkArith.wf_u32 ⟨by omega, by omega⟩
theorem wfI {v : Nat} (h : v < 9223372036854775808) : (Lit.int .i64 (v : Int)).wf = true := WalkArith.wf_i64 ⟨by omega, by omega⟩

/-- Block b is a map of at most n entries that says f. -/
def MapAt (w : World) (b : Nat) (f : Nat → Option Nat) (n : Nat) : Prop :=
  ∃ D : DataW Unit, w.ownsMap Tryd.prog 25 (plainElem Tryd.prog 2) b n D ∧
    (∀ g : Nat, D.atKey (.int .u32 (g : Int)) (.lit (.int .i64 0)) = .lit (.int .i64 (((f g).getD 0 : Nat) : Int)) ∧ has D (.int .u32 (g : Int)) = (f g).isSome) ∧
    ∃ ks : List Nat, ks.Nodup ∧ size D = ks.length ∧ ∀ g, g ∈ ks ↔ (f g).isSome = true

section
variable {w w' : World} {b n : Nat} {f : Nat → Option Nat} {S : List Nat}
theorem MapAt.lt (h : MapAt w b f n) : b < w.heap.size := by
  obtain ⟨D, h1, _⟩ := h
  exact h1.lt
theorem MapAt.ch (h : MapAt w b f n) (hc : Ch S w w') (hb : b ∉ S) : MapAt w' b f n := by
  obtain ⟨D, h1, h2⟩ := h
  have hlt := h1.lt
  obtain ⟨es, clock, e1, e2⟩ := h1
  exact ⟨D, ⟨es, clock, (hc.block b hlt hb).trans e1, e2⟩, h2⟩
theorem MapAt.made (w : World) : MapAt (w.alloc (.map #[] 0)) w.heap.size (fun _ => none) 0 :=
  ⟨.map [], World.ownsMap_made _ _ _ _, fun g => ⟨rfl, rfl⟩, [], List.nodup_nil, rfl, fun g => by simp⟩
theorem MapAt.look (h : MapAt w b f n) {g : Nat} (hg : g < 4294967296) : (Instr.lookup 23 (.map (some b)) (.int .u32 (g : Int)) false).run Tryd.prog w = .ok (.int .i64 (((f g).getD 0 : Nat) : Int)) w := by
  obtain ⟨D, h1, h2, _⟩ := h
  obtain ⟨c, hrun, hat, _⟩ := h1.lookup_int keyedU Tryd.underlying23 Tryd.underlying2 (zeroI w) (keyOf_int_mk Tryd.underlying25 (wfU hg))
  have e := (Lit.int.inj (DataW.lit.inj ((h2 g).1.symm.trans hat))).2
  rw [hrun, e]
theorem MapAt.look_ok (h : MapAt w b f n) {g : Nat} (hg : g < 4294967296) : (Instr.lookup 23 (.map (some b)) (.int .u32 (g : Int)) true).run Tryd.prog w = .ok (.tuple #[.int .i64 (((f g).getD 0 : Nat) : Int), .bool (f g).isSome]) w := by
  obtain ⟨D, h1, h2, _⟩ := h
  obtain ⟨v, ps, hrun, hv⟩ := h1.look_ok keyedU Tryd.underlying23 (zeroI w) (plainElem_int Tryd.underlying2 (wfI (v := 0) (by decide))) (keyOf_int_mk Tryd.underlying25 (wfU hg))
  obtain ⟨c, rfl, hc, _⟩ := plainElem_int_inv Tryd.underlying2 hv
  simp only [Prod.mk.injEq] at hc
  have e := (Lit.int.inj (DataW.lit.inj ((h2 g).1.symm.trans hc.1))).2
  rw [hrun, (h2 g).2, e]
theorem MapAt.len (h : MapAt w b f n) (ty : TypeId) : ∃ ks : List Nat, ks.Nodup ∧ (∀ g, g ∈ ks ↔ (f g).isSome = true) ∧ (Builtin.len_ #[23] ty #[.map (some b)]).run Tryd.prog w = .ok (.int .i64 (ks.length : Int)) w := by
  obtain ⟨D, h1, _, ks, h3, h4, h5⟩ := h
  exact ⟨ks, h3, h5, by rw [h1.len Tryd.underlying23 ty, h4]⟩

theorem MapAt.put_law {D : DataW Unit} {g v : Nat} (hm : Tidy D) (h2 : ∀ g : Nat, D.atKey (.int .u32 (g : Int)) (.lit (.int .i64 0)) = .lit (.int .i64 (((f g).getD 0 : Nat) : Int)) ∧ has D (.int .u32 (g : Int)) = (f g).isSome)
    (h3 : ∃ ks : List Nat, ks.Nodup ∧ size D = ks.length ∧ ∀ g, g ∈ ks ↔ (f g).isSome = true) :
    (∀ x : Nat, (D.put (.int .u32 (g : Int)) (.lit (.int .i64 (v : Int)))).atKey (.int .u32 (x : Int)) (.lit (.int .i64 0)) = .lit (.int .i64 (((if x = g then some v else f x).getD 0 : Nat) : Int)) ∧ has (D.put (.int .u32 (g : Int)) (.lit (.int .i64 (v : Int)))) (.int .u32 (x : Int)) = (if x = g then some v else f x).isSome) ∧
    ∃ ks : List Nat, ks.Nodup ∧ size (D.put (.int .u32 (g : Int)) (.lit (.int .i64 (v : Int)))) = ks.length ∧ ∀ x, x ∈ ks ↔ (if x = g then some v else f x).isSome = true := by
  have hk : WideAt.IsKeyLit (.int .u32 (g : Int)) := trivial
  refine ⟨fun x => ?_, ?_⟩
  · by_cases e : x = g
    · subst e
      rw [if_pos rfl]
      exact ⟨atKey_put_same hm.isMap hk _ _, has_put_same hm.isMap hk _⟩
    · have hne : (Lit.int .u32 (x : Int)) ≠ .int .u32 (g : Int) := fun h => e (by injection h with _ h; omega)
      rw [if_neg e, atKey_put_other hne, has_put_other hne]
      exact h2 x
  · obtain ⟨ks, k1, k2, k3⟩ := h3
    rw [size_put hm, (h2 g).2]
    by_cases hs : (f g).isSome = true
    · rw [if_pos hs]
      refine ⟨ks, k1, k2, fun x => ?_⟩
      by_cases e : x = g
      · subst e
        simp [(k3 x).2 hs]
      · rw [if_neg e]; exact k3 x
    · rw [if_neg hs]
      refine ⟨g :: ks, List.nodup_cons.2 ⟨fun h => hs ((k3 g).1 h), k1⟩, by rw [k2]; rfl, fun x => ?_⟩
      by_cases e : x = g
      · subst e; simp
      · rw [if_neg e]
        simp only [List.mem_cons, e, false_or]
        exact k3 x
end

/-- 'm[k] = v' at the operation. -/
theorem wpList_mapPut {w : World} {b n : Nat} {f : Nat → Option Nat} {ops : Array Oper} {rest : List Oper} {o : Oper} {a : Act} {Q : Exit → Act → World → Prop}
    (hg : o.guard = none) (m x v : Operand) (hop : o.op = Op.mapUpdate 23 m x v) (hm : a.eval m = .map (some b)) (h : MapAt w b f n) (hn : n < 1000000000) (g val : Nat) (hx : a.eval x = .int .u32 (g : Int)) (hgl : g < 4294967296)
    (hv : a.eval v = .int .i64 (val : Int)) (hvl : val < 9223372036854775808)
    (hK : ∀ w', MapAt w' b (fun y => if y = g then some val else f y) (n + 1) → Ch [b] w w' → wpList Tryd.prog ops Q rest (a.put o.dst undef) w') :
    wpList Tryd.prog ops Q (o :: rest) a w := by
  obtain ⟨D, h1, h2, h3⟩ := h
  refine wpList_mapUpdate_own w hg m x v 23 hop 25 2 keyedU Tryd.underlying23 (plainElem Tryd.prog 2) b n D hm h1 (by unfold maxLen; omega) _ _ _ hx hv (keyOf_int_mk Tryd.underlying25 (wfU hgl)) _ _ (plainElem_int Tryd.underlying2 (wfI hvl)) ?_
  intro w' h1' hgr
  exact hK w' ⟨_, h1', MapAt.put_law (h1.tidy keyedU) h2 h3⟩ (Ch.of_grown hgr)
end Go.Proofs.YtjioghedokbgcaaDoor
