/-
  Blocks by their element types; slices of bytes that stay.
-/
import Derived.Test.YtpndlcjilgcfkaaGreatDoorCh
namespace Go.Proofs.YtpndlcjilgcfkaaGreatDoor
open Go Go.RowKit

/-- Block b is of the element type t. -/
def TyAt (w : World) (b : Nat) (t : TypeId) : Prop := ∃ cs, w.heap[b]? = some (.cells cs t (0, 0))
theorem TyAt.lt {w : World} {b : Nat} {t : TypeId} (h : TyAt w b t) : b < w.heap.size := by obtain ⟨cs, h⟩ := h; exact lt_of_block h
theorem TyAt.ne {w : World} {b g : Nat} {t e : TypeId} (h : TyAt w b t) (hg : TyAt w g e) (hne : t ≠ e) : b ≠ g := by
  rintro rfl
  obtain ⟨c1, h1⟩ := h
  obtain ⟨c2, h2⟩ := hg
  rw [h1] at h2
  simp only [Option.some.injEq, Obj.cells.injEq] at h2
  exact hne h2.2.1
theorem TyAt.ch {S : List Nat} {w w' : World} {b : Nat} {t : TypeId} (h : TyAt w b t) (hc : Ch S w w') (hn : b ∉ S) : TyAt w' b t := by
  obtain ⟨cs, h1⟩ := h
  exact ⟨cs, (hc.block b (lt_of_block h1) hn).trans h1⟩
theorem Bk.ty {w : World} {b : Nat} {t : TypeId} {cs : Array Value} (h : Bk w b t cs) : TyAt w b t := ⟨cs, h⟩
theorem own_ty {w : World} {base e size n : Nat} {v : Value} {xs : List Value} (h : w.ownsRow base e size v n xs) {g : Nat} (hg : v.ownBlock = some g) : TyAt w g e := by
  rcases h.2 with ⟨rfl, _⟩ | ⟨g', cap, cur, rfl, _, hh, _⟩
  · simp [Value.ownBlock] at hg
  · obtain rfl : g' = g := by simpa [Value.ownBlock] using hg
    exact ⟨cur, hh⟩
/-- Nothing of another type is touched by a writing into an owned row. -/
theorem ty_notin {w : World} {base e size n : Nat} {v : Value} {xs : List Value} (h : w.ownsRow base e size v n xs) {b : Nat} {t : TypeId} (hb : TyAt w b t) (hne : t ≠ e) : b ∉ v.ownBlock.toList := by
  cases hv : v.ownBlock with
  | none => simp
  | some g => simpa using hb.ne (own_ty h hv) hne

/-- A slice of bytes that stays: nil, or in a block of bytes from B on. -/
structure SrcU (B : Nat) (w : World) (A : Option Addr) (n : Nat) (l : List UInt8) : Prop where
  s : Src w A n l
  u : ∀ b o, A = some ⟨b, o, none⟩ → B ≤ b ∧ TyAt w b 5
theorem SrcU.ch {B : Nat} {S : List Nat} {w w' : World} {A : Option Addr} {n : Nat} {l : List UInt8} (h : SrcU B w A n l) (hc : Ch S w w') (hS : ∀ b, TyAt w b 5 → B ≤ b → b ∉ S) : SrcU B w' A n l :=
  ⟨h.s.ch hc fun b o e => hS b (h.u b o e).2 (h.u b o e).1, fun b o e => ⟨(h.u b o e).1, (h.u b o e).2.ch hc (hS b (h.u b o e).2 (h.u b o e).1)⟩⟩

end Go.Proofs.YtpndlcjilgcfkaaGreatDoor
