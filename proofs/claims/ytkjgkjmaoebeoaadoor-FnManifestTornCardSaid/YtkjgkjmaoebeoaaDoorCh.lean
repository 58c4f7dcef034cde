/-
  A world that is another one but for some blocks, and new ones: the word by which contracts tell what they leave alone. No statement of the claim stands here.
-/
import Derived.Test.YtkjgkjmaoebeoaaDoorMem
namespace Go.Proofs.YtkjgkjmaoebeoaaDoor
open Go Go.RowKit

/-- w' is w but for the blocks S, and new ones. -/
structure Ch (S : List Nat) (w w' : World) : Prop where
  os : w'.os = w.os
  tape : w'.tape = w.tape
  output : w'.output = w.output
  size : w.heap.size ≤ w'.heap.size
  block : ∀ k, k < w.heap.size → k ∉ S → w'.heap[k]? = w.heap[k]?

section
variable {S S' : List Nat} {w w1 w2 w' : World} {B : Nat}
theorem Ch.refl (S : List Nat) (w : World) : Ch S w w := ⟨rfl, rfl, rfl, Nat.le_refl _, fun _ _ _ => rfl⟩
theorem Ch.mono (h : Ch S w w') (hs : ∀ k, k ∈ S → k ∈ S' ∨ w.heap.size ≤ k) : Ch S' w w' :=
  ⟨h.os, h.tape, h.output, h.size, fun k hk hn => h.block k hk fun hm => by
    rcases hs k hm with h1 | h1
    · exact hn h1
    · omega⟩
theorem Ch.trans' (h : Ch S w w1) (h2 : Ch S' w1 w2) (hs : ∀ k, k ∈ S' → k ∈ S ∨ w.heap.size ≤ k) : Ch S w w2 :=
  ⟨h2.os.trans h.os, h2.tape.trans h.tape, h2.output.trans h.output, Nat.le_trans h.size h2.size, fun k hk hn => (h2.block k (Nat.lt_of_lt_of_le hk h.size) fun hm => by
    rcases hs k hm with h1 | h1
    · exact hn h1
    · omega).trans (h.block k hk hn)⟩
theorem Ch.trans (h : Ch S w w1) (h2 : Ch S w1 w2) : Ch S w w2 := h.trans' h2 fun _ hk => .inl hk
theorem Ch.trans_nil (h : Ch S w w1) (h2 : Ch [] w1 w2) : Ch S w w2 := h.trans' h2 fun _ hk => by cases hk
theorem Ch.of_below (h : Below w.heap.size w w') : Ch S w w' := ⟨h.os, h.tape, h.output, h.size, fun k hk _ => h.block k hk⟩
theorem Ch.of_grown {g : Nat} (h : w.grownBy w' (some g)) : Ch [g] w w' := ⟨h.os, h.tape, h.output, h.size, fun k hk hn => h.block k hk fun e => hn (by injection e with e; subst e; simp)⟩
theorem Ch.of_grown_none (h : w.grownBy w' none) : Ch [] w w' := ⟨h.os, h.tape, h.output, h.size, fun k hk _ => h.block k hk fun e => by cases e⟩
theorem Ch.alloc (h : Ch S w w') (o : Obj) : Ch S w (w'.alloc o) := h.trans_nil (Ch.of_below ((Below.refl _ _).alloc (Nat.le_refl _) _))
theorem Ch.drew (h : Ch S w w') : Ch S w w'.drew := ⟨h.os, h.tape, h.output, h.size, h.block⟩
theorem Ch.drewN (h : Ch S w w') (n : Nat) : Ch S w (w'.drewN n) := ⟨h.os, h.tape, h.output, h.size, h.block⟩
theorem Ch.setCell (h : Ch S w w') {p : Addr} (hp : p.block ∈ S ∨ w.heap.size ≤ p.block) (u : Value) : Ch S w (w'.setCell p u) :=
  h.trans' (S' := [p.block]) ⟨rfl, rfl, rfl, by simp, fun k _ hn => heap_setCell_other w' p k u (fun e => hn (by subst e; simp))⟩ fun k hk => by
    simp at hk
    subst hk
    exact hp
theorem Ch.below (h : Ch S w w') (hB : B ≤ w.heap.size) (hs : ∀ k, k ∈ S → B ≤ k) : Below B w w' :=
  ⟨h.os, h.tape, h.output, h.size, fun k hk => h.block k (by omega) fun hm => by have := hs k hm; omega⟩
theorem Ch.below_nil (h : Ch [] w w') : Below w.heap.size w w' := h.below (Nat.le_refl _) fun _ hk => by cases hk
theorem Ch.grown_nil (h : Ch [] w w') : w.grownBy w' none := ⟨h.os, h.tape, h.output, h.size, fun k hk _ => h.block k hk (by simp)⟩
theorem Ch.grown_one {g : Nat} (h : Ch [g] w w') : w.grownBy w' (some g) := ⟨h.os, h.tape, h.output, h.size, fun k hk hn => h.block k hk (by simp; exact fun e => hn (by rw [e]))⟩
theorem Ch.cell (h : Ch S w w') {b : Nat} (o : Nat) (hb : b < w.heap.size) (hn : b ∉ S) : w'.cell? ⟨b, o, none⟩ = w.cell? ⟨b, o, none⟩ := by
  simp [World.cell?, h.block b hb hn]
theorem Ch.frozen (h : Ch S w w') {b : Nat} (o : Nat) (hb : b < w.heap.size) (hn : b ∉ S) : w'.frozen? ⟨b, o, none⟩ = w.frozen? ⟨b, o, none⟩ := by
  simp [World.frozen?, h.block b hb hn]
theorem Bk.ch {g : Nat} {t : TypeId} {cs : Array Value} (h : Bk w g t cs) (hc : Ch S w w') (hn : g ∉ S) : Bk w' g t cs := (hc.block g h.lt hn).trans h
theorem Bs.ch {b o : Nat} {l : List UInt8} (h : Bs w b o l) (hc : Ch S w w') (hn : b ∉ S) : Bs w' b o l :=
  fun j hj => (hc.cell _ (block_lt_of_cell (h j hj)) hn).trans (h j hj)
theorem Src.ch {A : Option Addr} {m : Nat} {l : List UInt8} (h : Src w A m l) (hc : Ch S w w') (hn : ∀ b o, A = some ⟨b, o, none⟩ → b ∉ S) : Src w' A m l :=
  ⟨h.1, fun hm => by
    obtain ⟨b, o, e, hb⟩ := h.2 hm
    exact ⟨b, o, e, hb.ch hc (hn b o e)⟩⟩
theorem Src.drew {A : Option Addr} {m : Nat} {l : List UInt8} (h : Src w A m l) : Src w.drew A m l := h
theorem Src.drewN {A : Option Addr} {m : Nat} {l : List UInt8} (h : Src w A m l) (n : Nat) : Src (w.drewN n) A m l := h
theorem own_ch {base e size n : Nat} {v : Value} {xs : List Value} (h : w.ownsRow base e size v n xs) (hc : Ch S w w') (hn : ∀ g, v.ownBlock = some g → g ∉ S) : w'.ownsRow base e size v n xs := by
  refine ⟨h.1, ?_⟩
  rcases h.2 with h0 | ⟨g, cap, cur, rfl, hb, hh, hr⟩
  · exact .inl h0
  · exact .inr ⟨g, cap, cur, rfl, hb, (hc.block g (lt_of_block hh) (hn g rfl)).trans hh, hr⟩
theorem OwnB.ch {base : Nat} {e : TypeId} {v : Value} {l : List UInt8} (h : OwnB w base e v l) (hc : Ch S w w') (hn : ∀ g, v.ownBlock = some g → g ∉ S) : OwnB w' base e v l := own_ch h hc hn
end
end Go.Proofs.YtkjgkjmaoebeoaaDoor
