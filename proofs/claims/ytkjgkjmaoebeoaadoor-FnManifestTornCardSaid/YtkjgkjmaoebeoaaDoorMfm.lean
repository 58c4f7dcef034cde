/-
  The bytes of a manifest: plain Lean.
-/
import Derived.Test.YtkjgkjmaoebeoaaDoorMnP
import Derived.Test.YtkjgkjmaoebeoaaDoorCrcMath
namespace Go.Proofs.YtkjgkjmaoebeoaaDoor
open Go
open Go.Proofs

/-- The head of a manifest. -/
def headB (m : Nat) : List UInt8 := [66, 100, 103, 114] ++ (Lib.beBytes 2 m ++ [0, 8])
/-- A set of changes: how long it is, its check, its bytes. -/
def setB (L : List Chg) : List UInt8 := Lib.beBytes 4 (bodyB L).length ++ (Lib.beBytes 4 (crc32 (bodyB L)) ++ bodyB L)
def setsB (Ls : List (List Chg)) : List UInt8 := Ls.flatMap setB
/-- What is no whole set: fewer than eight bytes, or fewer than it says. -/
def CutT (t : List UInt8) (N : Nat) : Prop := t.length < 8 ∨ (Lib.beNat (t.take 4) ≤ N ∧ t.length < 8 + Lib.beNat (t.take 4))
/-- A set whose check is wrong. -/
def BadT (t : List UInt8) (N : Nat) : Prop := Lib.beNat (t.take 4) ≤ N ∧ 8 + Lib.beNat (t.take 4) ≤ t.length ∧ crc32 ((t.drop 8).take (Lib.beNat (t.take 4))) ≠ Lib.beNat ((t.drop 4).take 4)

theorem headB_length (m : Nat) : (headB m).length = 8 := by simp [headB, Lib.beBytes_length]
theorem setB_length (L : List Chg) : (setB L).length = 8 + (bodyB L).length := by simp [setB, Lib.beBytes_length]; omega
theorem setsB_at {l : List (List Chg)} {j : Nat} (h : j < l.length) : setsB (l.drop j) = setB l[j] ++ setsB (l.drop (j + 1)) := by
  rw [List.drop_eq_getElem_cons h]
  show (l[j] :: l.drop (j + 1)).flatMap setB = _
  rw [List.flatMap_cons]
  rfl
theorem setsB_take {l : List (List Chg)} {j : Nat} (h : j < l.length) : setsB (l.take (j + 1)) = setsB (l.take j) ++ setB l[j] := by
  have h0 : l.take (j + 1) = l.take j ++ [l[j]] := by rw [List.take_add_one, List.getElem?_eq_getElem h]; rfl
  rw [h0, setsB, List.flatMap_append, List.flatMap_singleton]
  rfl
theorem setsB_split (l : List (List Chg)) (j : Nat) : setsB l = setsB (l.take j) ++ setsB (l.drop j) := by
  rw [setsB, setsB, setsB, ← List.flatMap_append, List.take_append_drop]
theorem run_append (b : Bok) (l m : List Chg) : b.run (l ++ m) = (b.run l).run m := by simp [Bok.run]
abbrev bok0 : Bok := ⟨fun _ => none, 0, 0⟩
theorem Bok.run_sum (b : Bok) (l : List Chg) : (b.run l).made + (b.run l).dropped = b.made + b.dropped + l.length := by
  induction l generalizing b with
  | nil => rfl
  | cons c l ih =>
    show ((b.step c).run l).made + ((b.step c).run l).dropped = _
    rw [ih]
    unfold Bok.step
    split
    · simp; omega
    · simp; omega
theorem run_sets (b : Bok) {l : List (List Chg)} {j : Nat} (h : j < l.length) : b.run (l.take (j + 1)).flatten = (b.run (l.take j).flatten).run l[j] := by
  have h0 : l.take (j + 1) = l.take j ++ [l[j]] := by rw [List.take_add_one, List.getElem?_eq_getElem h]; rfl
  rw [← run_append, h0, List.flatten_append, List.flatten_singleton]

theorem sets_rest {Ls : List (List Chg)} {tail : List UInt8} {j : Nat} (h : j < Ls.length) : setsB (Ls.drop j) ++ tail = Lib.beBytes 4 (bodyB Ls[j]).length ++ (Lib.beBytes 4 (crc32 (bodyB Ls[j])) ++ (bodyB Ls[j] ++ (setsB (Ls.drop (j + 1)) ++ tail))) := by
  rw [setsB_at h, setB]
  simp

/-- What stands at a round of reading: fewer than eight bytes, or fewer than they say (at the end, and the end is cut); a whole set whose check is right; the end, whose check is wrong. -/
theorem file_step {bad : Bool} {Ls : List (List Chg)} {tail l : List UInt8} {N j : Nat} (hj : j ≤ Ls.length) (hl : l = setsB (Ls.drop j) ++ tail) (hN : l.length ≤ N) (hN2 : N < 4294967296) (htl : (bad = true ∧ BadT tail N) ∨ (bad = false ∧ CutT tail N)) :
    (8 ≤ l.length → Lib.beNat (l.take 4) ≤ N) ∧
    (l.length < 8 ∨ (l.drop 8).length < Lib.beNat (l.take 4) → bad = false ∧ j = Ls.length) ∧
    (8 ≤ l.length → Lib.beNat (l.take 4) ≤ (l.drop 8).length → crc32 ((l.drop 8).take (Lib.beNat (l.take 4))) = Lib.beNat ((l.drop 4).take 4) → ∃ h : j < Ls.length, Lib.beNat (l.take 4) = (bodyB Ls[j]).length ∧ (l.drop 8).take (Lib.beNat (l.take 4)) = bodyB Ls[j] ∧ (l.drop 8).drop (Lib.beNat (l.take 4)) = setsB (Ls.drop (j + 1)) ++ tail) ∧
    (8 ≤ l.length → Lib.beNat (l.take 4) ≤ (l.drop 8).length → crc32 ((l.drop 8).take (Lib.beNat (l.take 4))) ≠ Lib.beNat ((l.drop 4).take 4) → bad = true) := by
  by_cases h : j < Ls.length
  · rw [sets_rest h] at hl
    obtain ⟨B, hB⟩ : ∃ B, bodyB Ls[j] = B := ⟨_, rfl⟩
    obtain ⟨R, hR⟩ : ∃ R, setsB (Ls.drop (j + 1)) ++ tail = R := ⟨_, rfl⟩
    rw [hB, hR] at hl
    have h1 : l.take 4 = Lib.beBytes 4 B.length := by rw [hl, List.take_left' (Lib.beBytes_length 4 _)]
    have h2 : l.drop 4 = Lib.beBytes 4 (crc32 B) ++ (B ++ R) := by rw [hl, List.drop_left' (Lib.beBytes_length 4 _)]
    have h3 : l.drop 8 = B ++ R := by rw [show 8 = 4 + 4 from rfl, ← List.drop_drop, h2, List.drop_left' (Lib.beBytes_length 4 _)]
    have h4 : l.length = 8 + (B.length + R.length) := by rw [hl]; simp [Lib.beBytes_length]; omega
    have h5 : Lib.beNat (l.take 4) = B.length := by rw [h1, Lib.beNat_beBytes 4 _ (by omega)]
    have h6 : Lib.beNat ((l.drop 4).take 4) = crc32 B := by rw [h2, List.take_left' (Lib.beBytes_length 4 _), Lib.beNat_beBytes 4 _ (crc32_lt B)]
    rw [h5, h6, h3, List.take_left' rfl, List.drop_left' rfl]
    refine ⟨fun _ => by omega, fun h0 => ?_, fun _ _ _ => ⟨h, by rw [hB], by rw [hB], hR.symm⟩, fun _ _ h0 => absurd rfl h0⟩
    rcases h0 with h0 | h0
    · omega
    · simp at h0
      omega
  · obtain rfl : j = Ls.length := by omega
    rw [List.drop_length] at hl
    obtain rfl : l = tail := by simpa [setsB] using hl
    rcases htl with ⟨rfl, h1, h2, h3⟩ | ⟨rfl, h1⟩
    · refine ⟨fun _ => h1, fun h0 => ?_, fun _ _ h0 => absurd h0 h3, fun _ _ _ => rfl⟩
      simp at h0
      omega
    · refine ⟨fun h8 => ?_, fun _ => ⟨rfl, rfl⟩, fun h8 h0 _ => ?_, fun h8 h0 _ => ?_⟩
      · rcases h1 with h1 | h1
        · omega
        · exact h1.1
      · simp at h0
        rcases h1 with h1 | h1
        · omega
        · omega
      · simp at h0
        rcases h1 with h1 | h1
        · omega
        · omega
end Go.Proofs.YtkjgkjmaoebeoaaDoor
