/-
  The manifest's maps: tables with their levels; the sets of levels.
-/
import Derived.Maps.OwnSet
import Derived.Maps.OwnOps
import Derived.Maps.Views
import Derived.Carry
import Derived.Test.YtkjgkjmaoebeoaaDoorCh
import Derived.Test.YtkjgkjmaoebeoaaDoorRows
namespace Go.Proofs.YtkjgkjmaoebeoaaDoor
open Go Go.RowKit Go.Maps
open Go.Proofs

/-- How a table of a manifest reads: by its level; no key, no compression. -/
def tmR (v : Value) : Option (DataW Unit × List MemPlace) :=
  match v with
  | .agg cs =>
    match cs.toList with
    | [.int .u8 l, .int .u64 k, .int .u32 c] => if k = 0 ∧ c = 0 then some (.lit (.int .u8 l), []) else none
    | _ => none
  | _ => none
/-- A table's cells. -/
def tmV (l : Nat) : Value := .agg #[.int .u8 (l : Int), .int .u64 0, .int .u32 0]
theorem tmR_mk (l : Nat) : tmR (tmV l) = some (.lit (.int .u8 (l : Int)), []) := rfl
theorem tmR_inv {v : Value} {z : DataW Unit × List MemPlace} (h : tmR v = some z) : ∃ l : Int, v = .agg #[.int .u8 l, .int .u64 0, .int .u32 0] ∧ z = (.lit (.int .u8 l), []) := by
  unfold tmR at h
  split at h
  · rename_i cs
    split at h
    · rename_i l k c hcs
      split at h
      · rename_i hkc
        obtain ⟨rfl, rfl⟩ := hkc
        refine ⟨l, ?_, (Option.some.inj h).symm⟩
        rw [← Array.toArray_toList (xs := cs), hcs]
      · cases h
    · cases h
  · cases h

theorem zeroTm (w : World) : (zeroValue 65).run Tryd.prog w = .ok (tmV 0) w := by kernel_rfl
theorem keyedT : Keyed Tryd.prog 45 := int_keyed Tryd.underlying45
theorem wfT {g : Nat} (h : g < 18446744073709551616) : (Lit.int .u64 (g : Int)).wf = true := WalkArith.wf_u64 ⟨by omega, by omega⟩

/-- Block b is a map of at most n tables that says f. -/
def TabAt (w : World) (b : Nat) (f : Nat → Option Nat) (n : Nat) : Prop :=
  ∃ D : DataW Unit, w.ownsMap Tryd.prog 45 tmR b n D ∧
    (∀ g : Nat, D.atKey (.int .u64 (g : Int)) (.lit (.int .u8 0)) = .lit (.int .u8 (((f g).getD 0 : Nat) : Int)) ∧ has D (.int .u64 (g : Int)) = (f g).isSome) ∧
    ∃ ks : List Nat, ks.Nodup ∧ size D = ks.length ∧ ∀ g, g ∈ ks ↔ (f g).isSome = true

section
variable {w w' : World} {b n : Nat} {f : Nat → Option Nat} {S : List Nat}
theorem TabAt.lt (h : TabAt w b f n) : b < w.heap.size := by
  obtain ⟨D, h1, _⟩ := h
  exact h1.lt
theorem TabAt.ch (h : TabAt w b f n) (hc : Ch S w w') (hb : b ∉ S) : TabAt w' b f n := by
  obtain ⟨D, h1, h2⟩ := h
  have hlt := h1.lt
  obtain ⟨es, clock, e1, e2⟩ := h1
  exact ⟨D, ⟨es, clock, (hc.block b hlt hb).trans e1, e2⟩, h2⟩
theorem TabAt.made (w : World) : TabAt (w.alloc (.map #[] 0)) w.heap.size (fun _ => none) 0 :=
  ⟨.map [], World.ownsMap_made _ _ _ _, fun g => ⟨rfl, rfl⟩, [], List.nodup_nil, rfl, fun g => by simp⟩
theorem TabAt.more {m : Nat} (h : TabAt w b f n) (hm : n ≤ m) : TabAt w b f m := by
  obtain ⟨D, h1, h2⟩ := h
  exact ⟨D, h1.mono hm, h2⟩

theorem TabAt.look_ok (h : TabAt w b f n) {g : Nat} (hg : g < 18446744073709551616) : (Instr.lookup 55 (.map (some b)) (.int .u64 (g : Int)) true).run Tryd.prog w = .ok (.tuple #[tmV ((f g).getD 0), .bool (f g).isSome]) w := by
  obtain ⟨D, h1, h2, _⟩ := h
  obtain ⟨v, ps, hrun, hv⟩ := h1.look_ok keyedT Tryd.underlying55 (zeroTm w) (tmR_mk 0) (keyOf_int_mk Tryd.underlying45 (wfT hg))
  obtain ⟨c, rfl, hc⟩ := tmR_inv hv
  simp only [Prod.mk.injEq] at hc
  have e := (Lit.int.inj (DataW.lit.inj ((h2 g).1.symm.trans hc.1))).2
  rw [hrun, (h2 g).2, tmV, e]
theorem TabAt.look (h : TabAt w b f n) {g : Nat} (hg : g < 18446744073709551616) : (Instr.lookup 55 (.map (some b)) (.int .u64 (g : Int)) false).run Tryd.prog w = .ok (tmV ((f g).getD 0)) w := by
  obtain ⟨D, h1, h2, _⟩ := h
  obtain ⟨v, ps, hrun, hv⟩ := h1.lookup keyedT Tryd.underlying55 (zeroTm w) (tmR_mk 0) (keyOf_int_mk Tryd.underlying45 (wfT hg))
  obtain ⟨c, rfl, hc⟩ := tmR_inv hv
  simp only [Prod.mk.injEq] at hc
  have e := (Lit.int.inj (DataW.lit.inj ((h2 g).1.symm.trans hc.1))).2
  rw [hrun, tmV, e]
theorem TabAt.len (h : TabAt w b f n) (ty : TypeId) : ∃ ks : List Nat, ks.Nodup ∧ (∀ g, g ∈ ks ↔ (f g).isSome = true) ∧ (Builtin.len_ #[55] ty #[.map (some b)]).run Tryd.prog w = .ok (.int .i64 (ks.length : Int)) w := by
  obtain ⟨D, h1, _, ks, h3, h4, h5⟩ := h
  exact ⟨ks, h3, h5, by rw [h1.len Tryd.underlying55 ty, h4]⟩

theorem litNe {g x : Nat} (e : x ≠ g) : (Lit.int .u64 (x : Int)) ≠ .int .u64 (g : Int) := fun h => e (by injection h with _ h; omega)

theorem TabAt.put (h : TabAt w b f n) (hn : n < 1000000000) {g v : Nat} (hg : g < 18446744073709551616) : ∃ w', (Instr.mapUpdate 55 (.map (some b)) (.int .u64 (g : Int)) (tmV v)).run Tryd.prog w = .ok () w' ∧ TabAt w' b (fun x => if x = g then some v else f x) (n + 1) ∧ Ch [b] w w' := by
  obtain ⟨D, h1, h2, ks, k1, k2, k3⟩ := h
  have hm := h1.tidy keyedT
  have hk : WideAt.IsKeyLit (.int .u64 (g : Int)) := trivial
  obtain ⟨w', hrun, h1', hgr⟩ := h1.update keyedT Tryd.underlying55 (by unfold maxLen; omega) (keyOf_int_mk Tryd.underlying45 (wfT hg)) (tmR_mk v)
  refine ⟨w', hrun, ⟨_, h1', fun x => ?_, ?_⟩, Ch.of_grown hgr⟩
  · dsimp only
    by_cases e : x = g
    · subst e
      rw [if_pos rfl]
      exact ⟨atKey_put_same hm.isMap hk _ _, has_put_same hm.isMap hk _⟩
    · rw [if_neg e, atKey_put_other (litNe e), has_put_other (litNe e)]
      exact h2 x
  · rw [size_put hm, (h2 g).2]
    by_cases hs : (f g).isSome = true
    · rw [if_pos hs]
      refine ⟨ks, k1, k2, fun x => ?_⟩
      dsimp only
      by_cases e : x = g
      · subst e
        simp [(k3 x).2 hs]
      · rw [if_neg e]; exact k3 x
    · rw [if_neg hs]
      refine ⟨g :: ks, List.nodup_cons.2 ⟨fun h => hs ((k3 g).1 h), k1⟩, by rw [k2]; rfl, fun x => ?_⟩
      dsimp only
      by_cases e : x = g
      · subst e; simp
      · rw [if_neg e]
        simp only [List.mem_cons, e, false_or]
        exact k3 x

theorem TabAt.drop (h : TabAt w b f n) {g : Nat} (hg : g < 18446744073709551616) (ty : TypeId) : ∃ w', (Builtin.delete_ #[55, 45] ty #[.map (some b), .int .u64 (g : Int)]).run Tryd.prog w = .ok (.tuple #[]) w' ∧ TabAt w' b (fun x => if x = g then none else f x) n ∧ Ch [b] w w' := by
  obtain ⟨D, h1, h2, ks, k1, k2, k3⟩ := h
  have hm := h1.tidy keyedT
  obtain ⟨w', hrun, h1', hgr⟩ := h1.drop keyedT Tryd.underlying55 (keyOf_int_mk Tryd.underlying45 (wfT hg)) ty
  refine ⟨w', hrun, ⟨_, h1', fun x => ?_, ?_⟩, Ch.of_grown hgr.grown⟩
  · dsimp only
    by_cases e : x = g
    · subst e
      rw [if_pos rfl]
      exact ⟨atKey_del_same _, has_del_same⟩
    · rw [if_neg e, atKey_del_other (litNe e), has_del_other (litNe e)]
      exact h2 x
  · have hs := size_del hm (k := .int .u64 (g : Int))
    rw [(h2 g).2] at hs
    by_cases hg2 : (f g).isSome = true
    · rw [if_pos hg2] at hs
      have hmem := (k3 g).2 hg2
      refine ⟨ks.erase g, k1.erase g, by rw [List.length_erase_of_mem hmem]; omega, fun x => ?_⟩
      dsimp only
      rw [k1.mem_erase_iff]
      by_cases e : x = g
      · subst e; simp
      · rw [if_neg e]
        simp [e, k3 x]
    · rw [if_neg hg2] at hs
      refine ⟨ks, k1, by omega, fun x => ?_⟩
      dsimp only
      by_cases e : x = g
      · subst e
        simp
        exact fun h => hg2 ((k3 x).1 h)
      · rw [if_neg e]; exact k3 x
end

/-- Block b is some set of tables. -/
def SetAt (w : World) (b n : Nat) : Prop := ∃ D : DataW Unit, w.ownsMap Tryd.prog 45 unitElem b n D
section
variable {w w' : World} {b n : Nat} {S : List Nat}
theorem SetAt.lt (h : SetAt w b n) : b < w.heap.size := by
  obtain ⟨D, h1⟩ := h
  exact h1.lt
theorem SetAt.ch (h : SetAt w b n) (hc : Ch S w w') (hb : b ∉ S) : SetAt w' b n := by
  obtain ⟨D, h1⟩ := h
  have hlt := h1.lt
  obtain ⟨es, clock, e1, e2⟩ := h1
  exact ⟨D, ⟨es, clock, (hc.block b hlt hb).trans e1, e2⟩⟩
theorem SetAt.made (w : World) : SetAt (w.alloc (.map #[] 0)) w.heap.size 0 := ⟨.map [], World.ownsMap_made _ _ _ _⟩
theorem SetAt.more {m : Nat} (h : SetAt w b n) (hm : n ≤ m) : SetAt w b m := by
  obtain ⟨D, h1⟩ := h
  exact ⟨D, h1.mono hm⟩
theorem SetAt.put (h : SetAt w b n) (hn : n < 1000000000) {g : Nat} (hg : g < 18446744073709551616) : ∃ w', (Instr.mapUpdate 154 (.map (some b)) (.int .u64 (g : Int)) (.agg #[])).run Tryd.prog w = .ok () w' ∧ SetAt w' b (n + 1) ∧ Ch [b] w w' := by
  obtain ⟨D, h1⟩ := h
  obtain ⟨w', hrun, h1', hgr⟩ := h1.update keyedT Tryd.underlying154 (by unfold maxLen; omega) (keyOf_int_mk Tryd.underlying45 (wfT hg)) unitElem_mk
  exact ⟨w', hrun, ⟨_, h1'⟩, Ch.of_grown hgr⟩
theorem SetAt.drop (h : SetAt w b n) {g : Nat} (hg : g < 18446744073709551616) (ty : TypeId) : ∃ w', (Builtin.delete_ #[154, 45] ty #[.map (some b), .int .u64 (g : Int)]).run Tryd.prog w = .ok (.tuple #[]) w' ∧ SetAt w' b n ∧ Ch [b] w w' := by
  obtain ⟨D, h1⟩ := h
  obtain ⟨w', hrun, h1', hgr⟩ := h1.drop keyedT Tryd.underlying154 (keyOf_int_mk Tryd.underlying45 (wfT hg)) ty
  exact ⟨w', hrun, ⟨_, h1'⟩, Ch.of_grown hgr.grown⟩
end
end Go.Proofs.YtkjgkjmaoebeoaaDoor
