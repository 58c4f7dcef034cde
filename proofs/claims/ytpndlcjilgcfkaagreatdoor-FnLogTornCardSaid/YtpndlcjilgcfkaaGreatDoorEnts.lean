/-
  Words on lists of impl.Entry: rows of the call's own that hold some entries.
-/
import Derived.Test.YtpndlcjilgcfkaaGreatDoorSpecEA
import Derived.Test.YtpndlcjilgcfkaaGreatDoorTy
import Derived.Maps.AppendAt
namespace Go.Proofs.YtpndlcjilgcfkaaGreatDoor
open Go Go.RowKit
open Go.Proofs

/-- The cells of some entries. -/
def entCs : List LEnt → List Value
  | [] => []
  | e :: r => (enC e).toList ++ entCs r
theorem entCs_append : ∀ (l r : List LEnt), entCs (l ++ r) = entCs l ++ entCs r := by
  intro l
  induction l with
  | nil => intro r; rfl
  | cons e l ih => intro r; simp [entCs, ih]
theorem enC_len (e : LEnt) : (enC e).toList.length = 7 := rfl
theorem entCs_length : ∀ (l : List LEnt), (entCs l).length = l.length * 7 := by
  intro l
  induction l with
  | nil => rfl
  | cons e l ih => rw [entCs, List.length_append, enC_len, ih, List.length_cons]; omega
theorem entCs_one : ∀ (l : List LEnt) (u : Value), u ∈ entCs l → u.oneCell' = true := by
  intro l
  induction l with
  | nil => intro u h; cases h
  | cons e l ih =>
    intro u h
    rw [entCs, List.mem_append] at h
    rcases h with h | h
    · simp [enC, entCells] at h
      rcases h with rfl | rfl | rfl | rfl | rfl | rfl | rfl <;> rfl
    · exact ih u h
theorem entCs_get : ∀ (l : List LEnt) (j i : Nat) (hj : j < l.length), i < 7 → (entCs l)[j * 7 + i]? = (enC l[j])[i]? := by
  intro l
  induction l with
  | nil => intro j i hj; simp at hj
  | cons e l ih =>
    intro j i hj hi
    cases j with
    | zero =>
      rw [entCs, List.getElem?_append_left (by rw [enC_len]; omega)]
      simp
    | succ j =>
      have h1 := ih j i (by simpa using hj) hi
      rw [entCs, List.getElem?_append_right (by rw [enC_len]; omega), enC_len, show (j + 1) * 7 + i - 7 = j * 7 + i by omega, h1]
      rfl

/-- A slice of the call's own that holds the entries l. -/
def Ents (B : Nat) (w : World) (v : Value) (l : List LEnt) : Prop := w.ownsRow B 30 7 v l.length (entCs l)
section
variable {B : Nat} {w w' : World} {v : Value} {l : List LEnt}
theorem Ents.nil (B : Nat) (w : World) : Ents B w (.slice none 0 0) [] := World.ownsRow_nil w B _ _
theorem Ents.ch {S : List Nat} (h : Ents B w v l) (hc : Ch S w w') (hS : ∀ g, v.ownBlock = some g → g ∉ S) : Ents B w' v l := own_ch h hc hS
theorem Ents.below {N : Nat} (h : Ents B w v l) (hb : Below N w w') (hN : w.heap.size ≤ N) : Ents B w' v l :=
  own_ch h (S := []) (Ch.of_below (hb.mono hN)) (fun _ _ => by simp)
theorem Ents.lt (h : Ents B w v l) {g : Nat} (hg : v.ownBlock = some g) : B ≤ g ∧ g < w.heap.size := World.ownsRow.lt h g hg
theorem Ents.mono {B' : Nat} (h : Ents B w v l) (hB : B' ≤ B) : Ents B' w v l := by
  refine ⟨h.1, ?_⟩
  rcases h.2 with h0 | ⟨g, cap, cur, h1, h2, h3⟩
  · exact .inl h0
  · exact .inr ⟨g, cap, cur, h1, Nat.le_trans hB h2, h3⟩
/-- A cell of an entry. -/
theorem Ents.cell {A : Option Addr} {n c j i : Nat} (h : Ents B w (.slice A n c) l) (hj : j < l.length) (hi : i < 7) : ∃ g, A = some ⟨g, 0, none⟩ ∧ w.cell? ⟨g, j * 7 + i, none⟩ = (enC l[j])[i]? := by
  obtain ⟨x, hx⟩ : ∃ x, (entCs l)[j * 7 + i]? = some x := by
    have : j * 7 + i < (entCs l).length := by rw [entCs_length]; omega
    exact ⟨_, List.getElem?_eq_getElem this⟩
  have hn : n = l.length := by
    rcases h.2 with ⟨h1, h2⟩ | ⟨g, cap, cur, h1, _⟩
    · omega
    · injection h1
  subst hn
  rcases h.2 with ⟨_, h2⟩ | ⟨g, cap, cur, h1, h2, h3, h4, h5, h6, h7⟩
  · omega
  · injection h1 with hA _ _
    refine ⟨g, hA, ?_⟩
    rw [← entCs_get l j i hj hi, hx]
    have h8 := World.ownsRow.cells h (g := g) (by simp [hA, Value.ownBlock]) (j * 7 + i) x hx
    rw [Addr.add_lit, Nat.zero_add] at h8
    exact h8
theorem Ents.len {A : Option Addr} {n c : Nat} (h : Ents B w (.slice A n c) l) : n = l.length := by
  rcases h.2 with ⟨h1, h2⟩ | ⟨g, cap, cur, h1, _⟩
  · injection h1 with _ h1 _
    omega
  · injection h1
end
theorem ents_form {B : Nat} {w : World} {v : Value} {l : List LEnt} (h : Ents B w v l) : ∃ A c, v = .slice A l.length c := by
  rcases h.2 with ⟨rfl, h1⟩ | ⟨g, cap, cur, rfl, _⟩
  · exact ⟨_, _, by rw [h1]⟩
  · exact ⟨_, _, rfl⟩

theorem row_parts_ {P : Program} {t : TypeId} {k : Nat} (h : (P.info? t).map (fun i => (i.zero.map (·.cells.size), i.size, decide (i.bytes ≤ 128))) = some (some k, k, true)) :
    ∃ i z, P.info? t = some i ∧ i.zero = some z ∧ i.size = k ∧ z.cells.size = k ∧ i.bytes ≤ 128 := by
  cases hi : P.info? t with
  | none => rw [hi] at h; cases h
  | some i =>
    rw [hi] at h
    simp only [Option.map_some, Option.some.injEq, Prod.mk.injEq, decide_eq_true_eq] at h
    cases hz : i.zero with
    | none => rw [hz] at h; simp at h
    | some z =>
      rw [hz] at h
      simp at h
      exact ⟨i, z, rfl, hz, h.2.1, h.1, h.2.2⟩

/-- 'append(s, xs...)' onto a slice of the call's own; where the new one lies. -/
theorem wpList_appendN {P : Program} {w : World} {ops : Array Oper} {rest : List Oper} {o : Oper} {a : Act} {Q : Exit → Act → World → Prop} (hgd : o.guard = none) (s x : Operand) (t : TypeId)
    (ho : o.op = .call { callee := .builtin .append, args := #[s, x], argTypes := #[t, t] })
    (base : Nat) (e : TypeId) (size : Nat) (ht : P.underlying t = some (.slice e)) (hrow : (P.info? e).map (fun i => (i.zero.map (·.cells.size), i.size, decide (i.bytes ≤ 128))) = some (some size, size, true)) (hsz : 0 < size)
    (v : Value) (n : Nat) (xs : List Value) (hs : a.eval s = v) (hown : w.ownsRow base e size v n xs)
    (X : Addr) (m c : Nat) (news : List Value) (hx : a.eval x = .slice (some X) m c) (hl : news.length = m * size) (hc : ∀ j u, news[j]? = some u → w.cell? (X.add j) = some u) (h1 : ∀ u ∈ news, u.oneCell' = true)
    (hn : n + m ≤ 1000000000000) (hbase : base ≤ w.heap.size)
    (h : ∀ A' c' w', w'.ownsRow base e size (.slice A' (n + m) c') (n + m) (xs ++ news) → Ch v.ownBlock.toList w w' → ((Value.slice A' (n + m) c').ownBlock = v.ownBlock ∨ (Value.slice A' (n + m) c').ownBlock = some w.heap.size) → wpList P ops Q rest (a.put o.dst (.slice A' (n + m) c')) w') :
    wpList P ops Q (o :: rest) a w := by
  obtain ⟨i, z, hi, hz, h2, h3, h4⟩ := row_parts_ hrow
  refine wpList_append_own_at w hgd s x t ho base e i z size i.bytes ht hi hz h2 rfl h3 hsz v n xs hs hown X m c news hx hl hc h1 (by unfold maxLen; omega) ?_ hbase ?_
  · have : (n + m) * i.bytes ≤ 1000000000000 * 128 := Nat.mul_le_mul (by omega) h4
    omega
  · intro v' w' k1 k2 _ k4
    obtain ⟨A', c', rfl⟩ : ∃ A c, v' = .slice A (n + m) c := by
      rcases k1.2 with ⟨rfl, h5⟩ | ⟨g, cap, cur, rfl, _⟩
      · exact ⟨none, 0, by rw [h5]⟩
      · exact ⟨_, _, rfl⟩
    refine h A' c' w' k1 ⟨k2.os, k2.tape, k2.output, k2.size, fun k hk hkn => k2.block k hk fun he => hkn ?_⟩ k4
    rw [← he]
    simp
end Go.Proofs.YtpndlcjilgcfkaaGreatDoor
