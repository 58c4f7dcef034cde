/-
  A manifest cut off at a place: its whole sets, and what is left of the next one. Plain Lean.
-/
import Derived.Test.YtkjgkjmaoebeoaaDoorMfm
namespace Go.Proofs.YtkjgkjmaoebeoaaDoor
open Go
open Go.Proofs

theorem setsB_cons (L : List Chg) (r : List (List Chg)) : setsB (L :: r) = setB L ++ setsB r := by simp [setsB]

theorem cut_sets : ∀ (Ls : List (List Chg)) (a : Nat), a ≤ (setsB Ls).length → ∃ j tail, j ≤ Ls.length ∧ (setsB Ls).take a = setsB (Ls.take j) ++ tail ∧ (setsB (Ls.take j)).length + tail.length = a ∧
    (∀ h : j < Ls.length, tail.length < (setB Ls[j]).length ∧ tail = (setB Ls[j]).take tail.length) ∧ (j = Ls.length → tail = [])
  | [], a, h => by
    have h0 : a = 0 := by simpa [setsB] using h
    subst h0
    exact ⟨0, [], Nat.le_refl _, by simp [setsB], by simp [setsB], fun h => absurd h (by simp), fun _ => rfl⟩
  | L :: r, a, h => by
    rw [setsB_cons, List.length_append] at h
    by_cases hlt : a < (setB L).length
    · refine ⟨0, (setB L).take a, Nat.zero_le _, ?_, ?_, fun _ => ⟨?_, ?_⟩, fun h => absurd h (by simp)⟩
      · rw [setsB_cons, List.take_append_of_le_length (by omega)]
        simp [setsB]
      · simp [setsB]; omega
      · simp; omega
      · simp
    · obtain ⟨j, tail, h1, h2, h3, h4, h5⟩ := cut_sets r (a - (setB L).length) (by omega)
      refine ⟨j + 1, tail, by simpa using h1, ?_, ?_, fun hj => ?_, fun hj => ?_⟩
      · rw [setsB_cons, List.take_append, List.take_of_length_le (by omega), h2, List.take_succ_cons, setsB_cons, List.append_assoc]
      · rw [List.take_succ_cons, setsB_cons, List.length_append]
        omega
      · exact h4 (by simpa using hj)
      · exact h5 (by simpa using hj)

/-- What is left of the next set is no whole set, if it says no more than the file holds. -/
theorem cut_tail {Ls : List (List Chg)} {j N : Nat} {tail : List UInt8} (h4 : ∀ h : j < Ls.length, tail.length < (setB Ls[j]).length ∧ tail = (setB Ls[j]).take tail.length) (h5 : j = Ls.length → tail = []) (hj : j ≤ Ls.length) (hb : ∀ L, L ∈ Ls → (bodyB L).length < 4294967296)
    (hN : tail.length < 4 ∨ Lib.beNat (tail.take 4) ≤ N) : CutT tail N := by
  rcases Nat.lt_or_eq_of_le hj with h | h
  · obtain ⟨a, b⟩ := h4 h
    by_cases h8 : tail.length < 8
    · exact .inl h8
    · refine .inr ⟨?_, ?_⟩
      · rcases hN with h0 | h0
        · omega
        · exact h0
      · have e : tail.take 4 = Lib.beBytes 4 (bodyB Ls[j]).length := by
          rw [b, List.take_take, Nat.min_eq_left (by omega), setB, List.take_left' (Lib.beBytes_length 4 _)]
        rw [e, Lib.beNat_beBytes 4 _ (hb _ (List.getElem_mem h))]
        rw [setB_length] at a
        exact a
  · rw [h5 h]
    exact .inl (by simp)

/-- A manifest's first t bytes, q of whose sets are whole there. -/
theorem cut_at {Cs : List (List Chg)} (m : Nat) {q t : Nat} (h1 : 8 + (setsB (Cs.take q)).length ≤ t) (h2 : q < Cs.length → t < 8 + (setsB (Cs.take (q + 1))).length) :
    ∃ tail, (headB m ++ setsB Cs).take t = headB m ++ (setsB (Cs.take q) ++ tail) ∧ ((headB m ++ setsB Cs).take t).drop (8 + (setsB (Cs.take q)).length) = tail ∧
      (∀ h : q < Cs.length, tail.length < (setB Cs[q]).length ∧ tail = (setB Cs[q]).take tail.length) ∧ (q = Cs.length → tail = []) := by
  obtain ⟨P, hP⟩ : ∃ P, headB m ++ setsB (Cs.take q) = P := ⟨_, rfl⟩
  have hPl : P.length = 8 + (setsB (Cs.take q)).length := by rw [← hP, List.length_append, headB_length]
  have hall : headB m ++ setsB Cs = P ++ setsB (Cs.drop q) := by rw [setsB_split Cs q, ← hP, List.append_assoc]
  have htk : (headB m ++ setsB Cs).take t = P ++ (setsB (Cs.drop q)).take (t - P.length) := by rw [hall, List.take_append, List.take_of_length_le (by omega)]
  refine ⟨(setsB (Cs.drop q)).take (t - P.length), ?_, ?_, fun h => ?_, fun h => ?_⟩
  · rw [htk, ← hP, List.append_assoc]
  · rw [htk, ← hPl, List.drop_left' rfl]
  · have h3 := h2 h
    rw [setsB_take h, List.length_append] at h3
    have h4 : t - P.length < (setB Cs[q]).length := by omega
    rw [setsB_at h, List.take_append_of_le_length (by omega)]
    refine ⟨by rw [List.length_take]; omega, ?_⟩
    rw [List.length_take, Nat.min_eq_left (by omega)]
  · rw [h, List.drop_length]
    simp [setsB]
end Go.Proofs.YtkjgkjmaoebeoaaDoor
