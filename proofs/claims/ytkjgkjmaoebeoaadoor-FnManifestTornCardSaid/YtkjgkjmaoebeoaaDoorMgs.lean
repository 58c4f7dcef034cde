/-
  The listed errors of a manifest's reading are compared.
-/
import Derived.Test.YtkjgkjmaoebeoaaDoorMcr
namespace Go.Proofs.YtkjgkjmaoebeoaaDoor
open Go Go.RowKit
open Go.Proofs

/-- What a listed error points to lies below B. -/
def Pt (B : Nat) (w : World) (a : Addr) : Prop := a.block < B ∧ ∃ cs t, w.heap[a.block]? = some (.cells cs t (0, 0))
structure Gs (B : Nat) (w : World) : Prop where
  eof : ∃ a, w.cell? ⟨3, 0, none⟩ = some (.iface 119 (.pointer (some a))) ∧ Pt B w a
  un : ∃ a, w.cell? ⟨4, 0, none⟩ = some (.iface 119 (.pointer (some a))) ∧ Pt B w a
  tr : ∃ a, w.cell? ⟨5, 0, none⟩ = some (.iface 119 (.pointer (some a))) ∧ Pt B w a
  hB : glN ≤ B

theorem Gs.gl {B : Nat} {w : World} (h : Gs B w) : Gl w := ⟨h.eof.imp fun _ h => h.1, h.un.imp fun _ h => h.1, h.tr.imp fun _ h => h.1⟩
theorem Pt.ch {B : Nat} {S : List Nat} {w w' : World} {a : Addr} (h : Pt B w a) (hc : Ch S w w') (hS : ∀ k, k ∈ S → B ≤ k) : Pt B w' a := by
  obtain ⟨h1, cs, t, h2⟩ := h
  exact ⟨h1, cs, t, (hc.block a.block (lt_of_block h2) (fun hm => by have := hS _ hm; omega)).trans h2⟩
theorem Gs.ch {B : Nat} {S : List Nat} {w w' : World} (h : Gs B w) (hc : Ch S w w') (hS : ∀ k, k ∈ S → B ≤ k) : Gs B w' := by
  have hB := h.hB
  unfold glN at hB
  obtain ⟨a1, e1, p1⟩ := h.eof
  obtain ⟨a2, e2, p2⟩ := h.un
  obtain ⟨a3, e3, p3⟩ := h.tr
  exact ⟨⟨a1, (hc.cell 0 (block_lt_of_cell e1) (fun hm => by have h0 : B ≤ 3 := hS _ hm; omega)).trans e1, p1.ch hc hS⟩, ⟨a2, (hc.cell 0 (block_lt_of_cell e2) (fun hm => by have h0 : B ≤ 4 := hS _ hm; omega)).trans e2, p2.ch hc hS⟩, ⟨a3, (hc.cell 0 (block_lt_of_cell e3) (fun hm => by have h0 : B ≤ 5 := hS _ hm; omega)).trans e3, p3.ch hc hS⟩, h.hB⟩

/-- Two of them are compared: the one or the other. -/
theorem eqAny {B : Nat} (a b : Addr) (W : World) (ha : Pt B W a) (hb : Pt B W b) : ∃ r : Bool, (binOp .eql 59 (.iface 119 (.pointer (some a))) (.iface 119 (.pointer (some b)))).run Tryd.prog W = .ok (.bool r) W := by
  by_cases h : a = b
  · subst h
    exact ⟨true, eqSame a W⟩
  · obtain ⟨i, hi, hcmp⟩ := Option.map_eq_some_iff.1 (show (Tryd.prog.info? 119).map (·.comparable) = some true by kernel_rfl)
    obtain ⟨j, hj, hjs⟩ := Option.map_eq_some_iff.1 (show (Tryd.prog.info? 121).map (·.size) = some 1 by kernel_rfl)
    obtain ⟨_, ca, ta, h1⟩ := ha
    obtain ⟨_, cb, tb, h2⟩ := hb
    exact ⟨false, run_eql_iface_ptr_other W Tryd.underlying59 Tryd.underlying119 hi hcmp hj (by rw [hjs]; decide) h h1 h2⟩

theorem EndErr.back {S : List Nat} {w w' : World} {a : Addr} (h : EndErr w' a) (hgl : Gl w) (hc : Ch S w w') (hS : ∀ k, k ∈ S → glN ≤ k) : EndErr w a := by
  rcases h with h | h
  · exact .inl (by rw [← hc.cell 0 hgl.eof.lt (fun hm => by have := hS _ hm; unfold glN at this; omega)]; exact h)
  · exact .inr (by rw [← hc.cell 0 hgl.un.lt (fun hm => by have := hS _ hm; unfold glN at this; omega)]; exact h)

theorem EndErr.fwd {S : List Nat} {w w' : World} {a : Addr} (h : EndErr w a) (hgl : Gl w) (hc : Ch S w w') (hS : ∀ k, k ∈ S → glN ≤ k) : EndErr w' a := by
  rcases h with h | h
  · exact .inl (by rw [hc.cell 0 hgl.eof.lt (fun hm => by have := hS _ hm; unfold glN at this; omega)]; exact h)
  · exact .inr (by rw [hc.cell 0 hgl.un.lt (fun hm => by have := hS _ hm; unfold glN at this; omega)]; exact h)

/-- One of the two tests strikes. -/
theorem end_tests {B : Nat} {w : World} {a : Addr} (h : EndErr w a) (hgs : Gs B w) :
    ∃ (a1 a2 : Addr) (r1 r2 : Bool), w.cell? ⟨3, 0, none⟩ = some (.iface 119 (.pointer (some a1))) ∧ w.cell? ⟨4, 0, none⟩ = some (.iface 119 (.pointer (some a2))) ∧
      (binOp .eql 59 (.iface 119 (.pointer (some a))) (.iface 119 (.pointer (some a1)))).run Tryd.prog w = .ok (.bool r1) w ∧
      (binOp .eql 59 (.iface 119 (.pointer (some a))) (.iface 119 (.pointer (some a2)))).run Tryd.prog w = .ok (.bool r2) w ∧ (r1 = false → r2 = true) := by
  obtain ⟨a1, e1, p1⟩ := hgs.eof
  obtain ⟨a2, e2, p2⟩ := hgs.un
  have hp : Pt B w a := by
    rcases h with h | h
    · rw [e1] at h
      obtain rfl : a1 = a := by simpa using h
      exact p1
    · rw [e2] at h
      obtain rfl : a2 = a := by simpa using h
      exact p2
  obtain ⟨r1, q1⟩ := eqAny a a1 w hp p1
  obtain ⟨r2, q2⟩ := eqAny a a2 w hp p2
  refine ⟨a1, a2, r1, r2, e1, e2, q1, q2, ?_⟩
  intro n1
  rcases h with h | h
  · rw [e1] at h
    obtain rfl : a1 = a := by simpa using h
    rw [eqSame] at q1
    subst n1
    simp at q1
  · rw [e2] at h
    obtain rfl : a2 = a := by simpa using h
    rw [eqSame] at q2
    simpa using q2.symm
end Go.Proofs.YtkjgkjmaoebeoaaDoor
