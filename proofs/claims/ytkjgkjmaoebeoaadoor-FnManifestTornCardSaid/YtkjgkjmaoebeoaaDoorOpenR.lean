/-
  An argument that is a slice of sets of changes, opened.
-/
import Derived.Test.YtkjgkjmaoebeoaaDoorMlc
import Derived.Deep.Slices
import Derived.ChangeSame
import Derived.WalkKit
import Derived.ProofKit
import Derived.OpenShut
import Derived.ShutString
namespace Go.Proofs.YtkjgkjmaoebeoaaDoor
open Go Go.RowKit Go.ChangeShapes Go.WideShapes Go.Deep
open Go.Proofs

theorem ecells_chg : Tryd.prog.cellsOf 47 = 3 := by kernel_rfl
theorem ecells_chgs : Tryd.prog.cellsOf 30 = 1 := by kernel_rfl
theorem ecells_u64 : Tryd.prog.cellsOf 45 = 1 := by kernel_rfl
theorem ecells_i : Tryd.prog.cellsOf 3 = 1 := by kernel_rfl
theorem ecells_bool : Tryd.prog.cellsOf 4 = 1 := by kernel_rfl
theorem nat_u16 {n : Int} (h : (Lit.int .u16 n).wf = true) : ∃ m : Nat, n = (m : Int) ∧ m < 65536 := by
  have := bounds_u16 h
  exact ⟨n.toNat, by omega, by omega⟩
theorem nat_u8 {n : Int} (h : (Lit.int .u8 n).wf = true) : ∃ m : Nat, n = (m : Int) ∧ m < 256 := by
  have := bounds_u8 h
  exact ⟨n.toNat, by omega, by omega⟩

/-- The cells of a change. -/
def rcC (c : RC) : List Value := [.int .u64 (c.id : Int), .int .i64 c.lev, .bool c.drop]

section
variable {H : Type} {enc : TypeId × Value → H} {W : World}

set_option maxRecDepth 100000 in
/-- Three cells that read as a change. -/
theorem rc_of_cells {n : Nat} {cs : List Value} {x : DataW H × List MemPlace} (hl : cs.length = 3) (h : DataW.trod enc Tryd.prog W 0 (fun _ => true) true n 47 cs = some x) :
    ∃ c : RC, cs = rcC c ∧ c.id < 18446744073709551616 := by
  obtain ⟨xs, n, _, hx, _, hlen, hfl⟩ := DataW.trod_struct Tryd.underlying47 h
  match cs, hl, xs, hlen with
  | [c0, c1, c2], _, [y0, y1, y2], _ =>
    obtain ⟨T, e0, rfl, w0⟩ := DataW.trod_int Tryd.underlying45 (show DataW.trod enc Tryd.prog W 0 (fun _ => true) true n 45 _ = some y0 from hfl 0 _ rfl)
    obtain ⟨q, e1, rfl, w1⟩ := DataW.trod_int Tryd.underlying3 (show DataW.trod enc Tryd.prog W 0 (fun _ => true) true n 3 _ = some y1 from hfl 1 _ rfl)
    obtain ⟨d, e2, h2⟩ := DataW.trod_bool Tryd.underlying4 (show DataW.trod enc Tryd.prog W 0 (fun _ => true) true n 4 _ = some y2 from hfl 2 _ rfl)
    simp [ecells_u64, ecells_i, ecells_bool] at e0 e1 e2
    subst e0 e1 e2
    have b0 := bounds_u64 w0
    exact ⟨⟨T.toNat, q, d⟩, by simp only [rcC]; rw [show ((T.toNat : Nat) : Int) = T by omega], by show T.toNat < _; omega⟩

theorem a_list {α : Type} {len : Nat} {p : Nat → α → Prop} (h : ∀ i, i < len → ∃ E, p i E) : ∃ l : List α, l.length = len ∧ ∀ i (hi : i < l.length), p i l[i] := by
  induction len with
  | zero => exact ⟨[], rfl, fun i hi => by simp at hi⟩
  | succ n ih =>
    obtain ⟨l, hl, hp⟩ := ih fun i hi => h i (by omega)
    obtain ⟨E, hE⟩ := h n (by omega)
    refine ⟨l ++ [E], by simp [hl], fun i hi => ?_⟩
    by_cases hin : i < l.length
    · rw [List.getElem_append_left hin]
      exact hp i hin
    · have hi2 : i = n := by simp at hi; omega
      subst hi2
      subst hl
      simpa using hE

theorem RcsR.none (B : Nat) (W : World) (A : Option Addr) (c : Nat) : RcsR B W (.slice A 0 c) [] := ⟨⟨A, c, rfl⟩, fun j hj => by simp at hj⟩

set_option maxRecDepth 100000 in
/-- Cells that read as a slice of changes. -/
theorem rcs_of_cells {fuel : Nat} {cs : List Value} {x : DataW H × List MemPlace} (h : DataW.trod enc Tryd.prog W 0 (fun _ => true) true fuel 30 cs = some x) : ∃ v l, cs = [v] ∧ RcsR W.heap.size W v l ∧ ∀ c, c ∈ l → c.id < 18446744073709551616 := by
  rcases open_slice Tryd.underlying30 h with ⟨h0, _⟩ | ⟨a, len0, cap0, m, n, D, Pl, hcs, _, hl, hm, hmm, _, hi⟩
  · exact ⟨_, [], h0, RcsR.none _ _ _ _, fun c hc => by cases hc⟩
  · rw [if_pos rfl] at hmm
    subst hmm
    obtain ⟨b, o, sp⟩ := a
    rw [ecells_chg] at hi
    by_cases hz : len0 = 0
    · subst hz
      exact ⟨_, [], hcs, RcsR.none _ _ _ _, fun c hc => by cases hc⟩
    have hsp : sp = none := by
      obtain ⟨cs', hc, ht'⟩ := hi 0 (by omega)
      obtain ⟨_, hcl, hat⟩ := World.cells?_some hc
      obtain ⟨E, rfl, _⟩ := rc_of_cells hcl ht'
      have h0 := hat 0 (by omega)
      simpa [Addr.add] using World.cell?_spot (h0.trans (show (rcC E)[0]? = some _ from rfl))
    subst hsp
    obtain ⟨l, hll, hp⟩ := a_list (len := len0) (p := fun i E => b < W.heap.size ∧ (∀ k u, (rcC E)[k]? = some u → W.cell? ⟨b, o + i * 3 + k, none⟩ = some u) ∧ E.id < 18446744073709551616) (fun i hil => by
      obtain ⟨cs', hc, ht'⟩ := hi i (by omega)
      obtain ⟨_, hcl, hat⟩ := World.cells?_some hc
      obtain ⟨E, rfl, w1⟩ := rc_of_cells hcl ht'
      have hall : ∀ k u, (rcC E)[k]? = some u → W.cell? ⟨b, o + i * 3 + k, none⟩ = some u := fun k u hk => by
        have hk7 : k < 3 := by
          have := (List.getElem?_eq_some_iff.1 hk).1
          simpa [rcC] using this
        have h1 := hat k hk7
        rw [Addr.add_lit, Addr.add_lit] at h1
        rw [h1, ← hk]
      exact ⟨E, block_lt_of_cell (hall 0 _ rfl), hall, w1⟩)
    refine ⟨_, l, hcs, ⟨⟨_, _, by rw [hll]⟩, fun j hj => ?_⟩, fun e he => ?_⟩
    · obtain ⟨hb, h1, _⟩ := hp j hj
      exact ⟨b, o, _, by rw [hll], hb, hb, h1 0 _ rfl, h1 1 _ rfl, h1 2 _ rfl⟩
    · obtain ⟨j, hj, rfl⟩ := List.getElem_of_mem he
      exact (hp j hj).2.2

set_option maxRecDepth 100000 in
/-- A slice of sets of changes as it is handed in. -/
theorem open_sets {r : Reach} {b0 : Nat} {v : Value} {d : DataW H} {p : List MemPlace} (hv : Value.okWide Tryd.prog W r b0 22 v)
    (h : DataW.Trod enc Tryd.prog W 0 (fun _ => true) true 22 v d p) : ∃ Ls, SetsR W.heap.size W v Ls ∧ Ls.length ≤ 9223372036854775807 ∧ ∀ L, L ∈ Ls → ∀ c, c ∈ L → c.id < 18446744073709551616 := by
  obtain ⟨a0, len0, cap0, rfl⟩ := okWide_slice Tryd.underlying22 hv
  obtain ⟨fuel, hf⟩ := h
  rcases open_slice Tryd.underlying22 hf with ⟨h0, _⟩ | ⟨a, len, cap, m, n, D, Pl, hcs, _, hl, hm, hmm, _, hi⟩
  · simp only [Value.cells, List.cons.injEq, Value.slice.injEq, and_true] at h0
    obtain ⟨rfl, rfl, rfl⟩ := h0
    exact ⟨[], ⟨⟨none, 0, rfl⟩, fun j hj => by simp at hj⟩, by simp, fun L hL => (by cases hL)⟩
  · simp only [Value.cells, List.cons.injEq, Value.slice.injEq, and_true] at hcs
    obtain ⟨rfl, rfl, rfl⟩ := hcs
    rw [if_pos rfl] at hmm
    subst hmm
    obtain ⟨b, o, sp⟩ := a
    rw [ecells_chgs] at hi
    by_cases hz : len0 = 0
    · subst hz
      exact ⟨[], ⟨⟨_, _, rfl⟩, fun j hj => by simp at hj⟩, by simp, fun L hL => (by cases hL)⟩
    have hsp : sp = none := by
      obtain ⟨cs', hc, ht'⟩ := hi 0 (by omega)
      obtain ⟨_, hcl, hat⟩ := World.cells?_some hc
      obtain ⟨u, l, rfl, _⟩ := rcs_of_cells ht'
      have h0 := hat 0 (by omega)
      simpa [Addr.add] using World.cell?_spot (h0.trans (show ([u] : List Value)[0]? = some _ from rfl))
    subst hsp
    obtain ⟨ts, hll, hp⟩ := a_list (len := len0) (p := fun i (L : List RC) => ∃ u, b < W.heap.size ∧ W.cell? ⟨b, o + i, none⟩ = some u ∧ RcsR W.heap.size W u L ∧ ∀ c, c ∈ L → c.id < 18446744073709551616) (fun i hil => by
      obtain ⟨cs', hc, ht'⟩ := hi i (by omega)
      obtain ⟨_, hcl, hat⟩ := World.cells?_some hc
      obtain ⟨u, l, rfl, w1, w2⟩ := rcs_of_cells ht'
      have h0 := hat 0 (by omega)
      rw [Addr.add_lit, Addr.add_lit] at h0
      simp only [Nat.mul_one, Nat.add_zero] at h0
      exact ⟨l, u, block_lt_of_cell (h0.trans rfl), h0, w1, w2⟩)
    refine ⟨ts, ⟨⟨_, _, by rw [hll]⟩, fun j hj => ?_⟩, by rw [hll]; unfold maxLen at hm; omega, fun t ht => ?_⟩
    · obtain ⟨u, hb, h0, h1, _⟩ := hp j hj
      exact ⟨b, o, _, u, by rw [hll], hb, hb, h0, h1⟩
    · obtain ⟨j, hj, rfl⟩ := List.getElem_of_mem ht
      obtain ⟨u, _, _, _, h2⟩ := hp j hj
      exact h2
end
end Go.Proofs.YtkjgkjmaoebeoaaDoor
