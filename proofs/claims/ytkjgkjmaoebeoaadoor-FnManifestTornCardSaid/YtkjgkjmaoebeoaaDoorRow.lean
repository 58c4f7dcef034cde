/-
  Rows that grow by append: words for them. No statement of the claim stands here.
-/
import Derived.Test.YtkjgkjmaoebeoaaDoorCh
namespace Go.Proofs.YtkjgkjmaoebeoaaDoor
open Go Go.RowKit

theorem own_form {w : World} {base e size n : Nat} {v : Value} {xs : List Value} (h : w.ownsRow base e size v n xs) : ∃ A c, v = .slice A n c := by
  rcases h.2 with ⟨rfl, rfl⟩ | ⟨g, cap, cur, rfl, _⟩
  · exact ⟨_, _, rfl⟩
  · exact ⟨_, _, rfl⟩

theorem own_cap {w : World} {base e size n c : Nat} {a : Addr} {xs : List Value} (h : w.ownsRow base e size (.slice (some a) n c) n xs) : n ≤ c ∧ c ≤ maxLen := by
  rcases h.2 with ⟨h1, _⟩ | ⟨g, cap, cur, h1, _, _, h2, h3, _⟩
  · cases h1
  · injection h1 with _ _ h1
    subst h1
    exact ⟨h2, h3⟩

theorem row_parts {P : Program} {t : TypeId} {k : Nat} (h : (P.info? t).map (fun i => (i.zero.map (·.cells.size), i.size, decide (i.bytes ≤ 128))) = some (some k, k, true)) :
    ∃ i z, P.info? t = some i ∧ i.zero = some z ∧ i.size = k ∧ z.cells.size = k ∧ i.bytes ≤ 128 := by
  cases hi : P.info? t with
  | none => rw [hi] at h; cases h
  | some i =>
    rw [hi] at h
    simp only [Option.map_some, Option.some.injEq, Prod.mk.injEq, decide_eq_true_eq] at h
    cases hz : i.zero with
    | none => rw [hz] at h; simp at h
    | some z =>
      rw [hz] at h
      simp at h
      exact ⟨i, z, rfl, hz, h.2.1, h.1, h.2.2⟩

/-- A cell of an owned row. -/
theorem own_cell {w : World} {base e size n : Nat} {A : Option Addr} {c : Nat} {xs : List Value} (h : w.ownsRow base e size (.slice A n c) n xs) {o : Nat} {x : Value} (ho : xs[o]? = some x) :
    ∃ g, A = some ⟨g, 0, none⟩ ∧ base ≤ g ∧ w.cell? ⟨g, o, none⟩ = some x := by
  have hlen := h.1
  rcases h.2 with ⟨_, h2⟩ | ⟨g, cap, cur, h1, h2, h3, h4, h5, h6, h7⟩
  · subst h2
    rw [Nat.zero_mul] at hlen
    rw [List.eq_nil_of_length_eq_zero hlen] at ho
    simp at ho
  · injection h1 with h1 _ _
    refine ⟨g, h1, h2, ?_⟩
    have hb : Bk w g e cur := h3
    rw [hb.cell]
    have hol : o < xs.length := by
      rcases Nat.lt_or_ge o xs.length with h | h
      · exact h
      · rw [List.getElem?_eq_none h] at ho; cases ho
    rw [← h7, List.getElem?_take_of_lt (by omega)] at ho
    simpa using ho

/-- 'append(s, x)' of one element that was just laid; where the new row lies. -/
theorem wpList_append1 {P : Program} {w : World} {ops : Array Oper} {rest : List Oper} {o : Oper} {a : Act} {Q : Exit → Act → World → Prop} (hgd : o.guard = none) (s x : Operand) (t : TypeId)
    (ho : o.op = .call { callee := .builtin .append, args := #[s, x], argTypes := #[t, t] })
    (base : Nat) (e : TypeId) (size : Nat) (ht : P.underlying t = some (.slice e)) (hrow : (P.info? e).map (fun i => (i.zero.map (·.cells.size), i.size, decide (i.bytes ≤ 128))) = some (some size, size, true)) (hsz : 0 < size)
    (v : Value) (n : Nat) (xs : List Value) (hs : a.eval s = v) (hown : w.ownsRow base e size v n xs)
    (nb c : Nat) (news : List Value) (hx : a.eval x = .slice (some ⟨nb, 0, none⟩) 1 c) (hl : news.length = size) (hb : Bk w nb e news.toArray) (h1 : ∀ u ∈ news, u.oneCell' = true)
    (hn : n ≤ 1000000000000) (hbase : base ≤ w.heap.size)
    (h : ∀ A' c' w', w'.ownsRow base e size (.slice A' (n + 1) c') (n + 1) (xs ++ news) → Ch v.ownBlock.toList w w' → ((Value.slice A' (n + 1) c').ownBlock = v.ownBlock ∨ (Value.slice A' (n + 1) c').ownBlock = some w.heap.size) → wpList P ops Q rest (a.put o.dst (.slice A' (n + 1) c')) w') :
    wpList P ops Q (o :: rest) a w := by
  obtain ⟨i, z, hi, hz, h2, h3, h4⟩ := row_parts hrow
  refine wpList_append_own_at w hgd s x t ho base e i z size i.bytes ht hi hz h2 rfl h3 hsz v n xs hs hown ⟨nb, 0, none⟩ 1 c news hx (by omega) ?_ h1 (by unfold maxLen; omega) ?_ hbase ?_
  · intro j u hj
    rw [Addr.add_lit, Nat.zero_add, hb.cell]
    simpa using hj
  · have : (n + 1) * i.bytes ≤ (1000000000000 + 1) * 128 := Nat.mul_le_mul (by omega) h4
    omega
  · intro v' w' k1 k2 _ k4
    obtain ⟨A', c', rfl⟩ := own_form k1
    refine h A' c' w' k1 ⟨k2.os, k2.tape, k2.output, k2.size, fun k hk hkn => k2.block k hk fun he => hkn ?_⟩ k4
    rw [← he]
    simp
/-- Block b is of the element type t. -/
def TyAt (w : World) (b : Nat) (t : TypeId) : Prop := ∃ cs, w.heap[b]? = some (.cells cs t (0, 0))
theorem TyAt.lt {w : World} {b : Nat} {t : TypeId} (h : TyAt w b t) : b < w.heap.size := by obtain ⟨cs, h⟩ := h; exact lt_of_block h
theorem TyAt.ne {w : World} {b g : Nat} {t e : TypeId} (h : TyAt w b t) (hg : TyAt w g e) (hne : t ≠ e) : b ≠ g := by
  rintro rfl
  obtain ⟨c1, h1⟩ := h
  obtain ⟨c2, h2⟩ := hg
  rw [h1] at h2
  simp only [Option.some.injEq, Obj.cells.injEq] at h2
  exact hne h2.2.1
theorem TyAt.ch {S : List Nat} {w w' : World} {b : Nat} {t : TypeId} (h : TyAt w b t) (hc : Ch S w w') (hn : b ∉ S) : TyAt w' b t := by
  obtain ⟨cs, h1⟩ := h
  exact ⟨cs, (hc.block b (lt_of_block h1) hn).trans h1⟩
theorem Bk.ty {w : World} {b : Nat} {t : TypeId} {cs : Array Value} (h : Bk w b t cs) : TyAt w b t := ⟨cs, h⟩
theorem own_ty {w : World} {base e size n : Nat} {v : Value} {xs : List Value} (h : w.ownsRow base e size v n xs) {g : Nat} (hg : v.ownBlock = some g) : TyAt w g e := by
  rcases h.2 with ⟨rfl, _⟩ | ⟨g', cap, cur, rfl, _, hh, _⟩
  · simp [Value.ownBlock] at hg
  · obtain rfl : g' = g := by simpa [Value.ownBlock] using hg
    exact ⟨cur, hh⟩
/-- Nothing of another type is touched by a writing into an owned row. -/
theorem ty_notin {w : World} {base e size n : Nat} {v : Value} {xs : List Value} (h : w.ownsRow base e size v n xs) {b : Nat} {t : TypeId} (hb : TyAt w b t) (hne : t ≠ e) : b ∉ v.ownBlock.toList := by
  cases hv : v.ownBlock with
  | none => simp
  | some g => simpa using hb.ne (own_ty h hv) hne
end Go.Proofs.YtkjgkjmaoebeoaaDoor
