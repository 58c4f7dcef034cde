/-
  A manifest of which one byte is another one: its check is wrong. Plain Lean.
-/
import Derived.Test.YtkjgkjmaoebeoaaDoorMct
import Derived.Lib.EndianMore
namespace Go.Proofs.YtkjgkjmaoebeoaaDoor
open Go
open Go.Proofs

theorem xor_can {a b c : Nat} (h : a ^^^ c = b ^^^ c) : a = b := by
  have h1 := congrArg (· ^^^ c) h
  simpa [Nat.xor_assoc] using h1
theorem xor_can' {a b c : Nat} (h : c ^^^ a = c ^^^ b) : a = b := by
  rw [Nat.xor_comm c a, Nat.xor_comm c b] at h
  exact xor_can h
theorem crcTop (a : Nat) (ha : a < 2147483648) (b : Nat) (hb : b < 2147483648) : a ^^^ 2197175160 ≠ b := fun h => by
  have h1 := congrArg (fun x => Nat.testBit x 31) h
  simp only [Nat.testBit_xor] at h1
  rw [Nat.testBit_lt_two_pow (show a < 2 ^ 31 by omega), Nat.testBit_lt_two_pow (show b < 2 ^ 31 by omega)] at h1
  revert h1
  decide
theorem crcBit_inj {s t : Nat} (hs : s < 4294967296) (ht : t < 4294967296) (h : crcBit s = crcBit t) : s = t := by
  unfold crcBit at h
  split at h <;> split at h
  · have := xor_can h
    omega
  · exact absurd h (crcTop _ (by omega) _ (by omega))
  · exact absurd h.symm (crcTop _ (by omega) _ (by omega))
  · omega
theorem crcBits_inj (j : Nat) {s t : Nat} (hs : s < 4294967296) (ht : t < 4294967296) (h : crcBits j s = crcBits j t) : s = t := by
  induction j with
  | zero => exact h
  | succ j ih => exact ih (crcBit_inj (crcBits_lt _ _ hs) (crcBits_lt _ _ ht) h)
theorem crcRun_inj (l : List UInt8) : ∀ {s t : Nat}, s < 4294967296 → t < 4294967296 → crcRun s l = crcRun t l → s = t := by
  induction l with
  | nil => exact fun _ _ h => h
  | cons b l ih => exact fun hs ht h => xor_can (crcBits_inj 8 (crcXor_lt _ _ hs) (crcXor_lt _ _ ht) (ih (crcByte_lt _ _ hs) (crcByte_lt _ _ ht) h))
theorem crcRun_ne {s : Nat} (hs : s < 4294967296) (a r : List UInt8) {x y : UInt8} (h : x ≠ y) : crcRun s (a ++ x :: r) ≠ crcRun s (a ++ y :: r) := fun he => by
  rw [crcRun_append, crcRun_append] at he
  have h0 := crcRun_lt a s hs
  have h1 := crcRun_inj r (crcByte_lt _ x h0) (crcByte_lt _ y h0) he
  have h2 := xor_can' (crcBits_inj 8 (crcXor_lt _ _ h0) (crcXor_lt _ _ h0) h1)
  exact h (UInt8.toNat_inj.1 h2)
/-- One byte is another one: so is the check. -/
theorem crc32_ne (a r : List UInt8) {x y : UInt8} (h : x ≠ y) : crc32 (a ++ x :: r) ≠ crc32 (a ++ y :: r) := fun he => by
  have h0 := crcRun_ne (s := 4294967295) (by omega) a r h
  have h1 := crcRun_lt (a ++ x :: r) 4294967295 (by omega)
  have h2 := crcRun_lt (a ++ y :: r) 4294967295 (by omega)
  unfold crc32 at he
  omega
theorem leNat_inj : ∀ {a b : List UInt8}, a.length = b.length → Lib.leNat a = Lib.leNat b → a = b
  | [], [], _, _ => rfl
  | x :: a, y :: b, hl, h => by
    simp only [Lib.leNat] at h
    have hx := x.toNat_lt
    have hy := y.toNat_lt
    have h1 : x.toNat = y.toNat := by omega
    have h2 : Lib.leNat a = Lib.leNat b := by omega
    rw [UInt8.toNat_inj.1 h1, leNat_inj (by simpa using hl) h2]
theorem beNat_inj {a b : List UInt8} (hl : a.length = b.length) (h : Lib.beNat a = Lib.beNat b) : a = b := by
  rw [Lib.beNat_eq, Lib.beNat_eq] at h
  have h1 := leNat_inj (by simpa using hl) h
  simpa using congrArg List.reverse h1
theorem set_ne {l : List UInt8} {i : Nat} {y : UInt8} (hi : i < l.length) (h : y ≠ l[i]) : l.set i y ≠ l := fun he => by
  have h0 : (l.set i y)[i]? = l[i]? := by rw [he]
  simp [hi] at h0
  exact h h0
theorem crc32_set {l : List UInt8} {i : Nat} {y : UInt8} (hi : i < l.length) (h : y ≠ l[i]) : crc32 (l.set i y) ≠ crc32 l := by
  have h1 : l.set i y = l.take i ++ y :: l.drop (i + 1) := by rw [List.set_eq_take_append_cons_drop, if_pos hi]
  have h2 : l = l.take i ++ l[i] :: l.drop (i + 1) := by simp
  intro he
  rw [h1] at he
  exact crc32_ne (l.take i) (l.drop (i + 1)) h (he.trans (by rw [← h2]))
/-- A set of which one byte, but of its length, is another one. -/
theorem torn_bad {L : List Chg} {p N : Nat} {y : UInt8} {R : List UInt8} (h4 : 4 ≤ p) (hp : p < (setB L).length) (hy : y ≠ (setB L)[p]) (hb : (bodyB L).length < 4294967296) (hN : (setB L ++ R).length ≤ N) : BadT ((setB L).set p y ++ R) N := by
  obtain ⟨B, hB⟩ : ∃ B, bodyB L = B := ⟨_, rfl⟩
  have hX : setB L = Lib.beBytes 4 B.length ++ (Lib.beBytes 4 (crc32 B) ++ B) := by rw [setB, hB]
  rw [hB] at hb
  simp only [hX] at hp hy hN ⊢
  have l4 : ∀ v, (Lib.beBytes 4 v).length = 4 := fun v => Lib.beBytes_length 4 v
  have hn := Lib.beNat_beBytes 4 B.length (by omega)
  have hc := Lib.beNat_beBytes 4 (crc32 B) (crc32_lt B)
  simp only [List.length_append, l4] at hp hN
  obtain ⟨A, hA⟩ : ∃ A, Lib.beBytes 4 B.length = A := ⟨_, rfl⟩
  obtain ⟨C, hC⟩ : ∃ C, Lib.beBytes 4 (crc32 B) = C := ⟨_, rfl⟩
  have lA : A.length = 4 := by rw [← hA]; exact l4 _
  have lC : C.length = 4 := by rw [← hC]; exact l4 _
  rw [hA] at hn
  rw [hC] at hc
  simp only [hA, hC] at hy ⊢
  have key : ∀ C' B' : List UInt8, C'.length = 4 → B'.length = B.length → crc32 B' ≠ Lib.beNat C' → BadT (A ++ (C' ++ B') ++ R) N := fun C' B' k1 k2 k3 => by
    have e1 : (A ++ (C' ++ B') ++ R).take 4 = A := by rw [List.append_assoc, List.take_left' lA]
    have e2 : (A ++ (C' ++ B') ++ R).drop 4 = C' ++ (B' ++ R) := by rw [List.append_assoc, List.drop_left' lA, List.append_assoc]
    have e3 : (A ++ (C' ++ B') ++ R).drop 8 = B' ++ R := by rw [show 8 = 4 + 4 from rfl, ← List.drop_drop, e2, List.drop_left' k1]
    refine ⟨?_, ?_, ?_⟩
    · rw [e1, hn]; omega
    · rw [e1, hn]; simp only [List.length_append]; omega
    · rw [e1, hn, e3, e2, List.take_left' k2, List.take_left' k1]
      exact k3
  by_cases h8 : p < 8
  · obtain ⟨i, rfl⟩ : ∃ i, p = 4 + i := ⟨p - 4, by omega⟩
    have hi : i < C.length := by omega
    have e1 : (A ++ (C ++ B)).set (4 + i) y = A ++ (C.set i y ++ B) := by
      rw [List.set_append_right _ _ (by omega), show 4 + i - A.length = i by omega, List.set_append_left _ _ hi]
    rw [e1]
    refine key _ _ (by simpa using lC) rfl fun h => ?_
    have hy2 : y ≠ C[i] := fun h0 => hy (by rw [h0, List.getElem_append_right (by omega)]; simp only [show 4 + i - A.length = i by omega]; rw [List.getElem_append_left hi])
    exact set_ne hi hy2 (beNat_inj (by simp) (h.symm.trans hc.symm))
  · obtain ⟨i, rfl⟩ : ∃ i, p = 8 + i := ⟨p - 8, by omega⟩
    have hi : i < B.length := by omega
    have e1 : (A ++ (C ++ B)).set (8 + i) y = A ++ (C ++ B.set i y) := by
      rw [List.set_append_right _ _ (by omega), List.set_append_right _ _ (by omega), show 8 + i - A.length - C.length = i by omega]
    rw [e1]
    refine key _ _ lC (by simp) fun h => ?_
    have hy2 : y ≠ B[i] := fun h0 => hy (by rw [h0, List.getElem_append_right (by omega), List.getElem_append_right (by omega)]; simp only [show 8 + i - A.length - C.length = i by omega])
    exact crc32_set hi hy2 (h.trans hc)
/-- A manifest in which byte t is another one: not one of a set's length. -/
theorem torn_at {Cs : List (List Chg)} (m t : Nat) {y : UInt8} {T : List UInt8} (hT : headB m ++ setsB Cs = T) (h8 : 8 ≤ t) (hlt : t < T.length) (hy : y ≠ T[t]) (hfar : ∀ i, i < Cs.length → t < 8 + (setsB (Cs.take i)).length ∨ 8 + (setsB (Cs.take i)).length + 4 ≤ t) (hb : ∀ L, L ∈ Cs → (bodyB L).length < 4294967296) :
    ∃ q tail, T.set t y = headB m ++ (setsB (Cs.take q) ++ tail) ∧ BadT tail T.length := by
  have hTl : T.length = 8 + (setsB Cs).length := by rw [← hT, List.length_append, headB_length]
  obtain ⟨j, tail, hj, h1, h2, h4, h5⟩ := cut_sets Cs (t - 8) (by omega)
  have hjl : j < Cs.length := by
    rcases Nat.lt_or_eq_of_le hj with h | h
    · exact h
    · have h6 := h5 h
      subst h6
      rw [h, List.take_length] at h2
      simp at h2
      omega
  obtain ⟨h6, _⟩ := h4 hjl
  have hsp := setsB_split Cs j
  rw [setsB_at hjl] at hsp
  have hf := hfar j hjl
  obtain ⟨A, hA⟩ : ∃ A, setsB (Cs.take j) = A := ⟨_, rfl⟩
  obtain ⟨R, hR⟩ : ∃ R, setsB (Cs.drop (j + 1)) = R := ⟨_, rfl⟩
  obtain ⟨p, hp⟩ : ∃ p, tail.length = p := ⟨_, rfl⟩
  rw [hA] at h2 hsp hf
  rw [hR] at hsp
  rw [hp] at h2 h6
  obtain rfl : t = 8 + (A.length + p) := by omega
  have hT2 : T = headB m ++ (A ++ (setB Cs[j] ++ R)) := by rw [← hT, hsp]
  have hhl := headB_length m
  have hyp : y ≠ (setB Cs[j])[p] := fun h0 => hy (by
    rw [h0]
    simp only [hT2]
    rw [List.getElem_append_right (by omega)]
    simp only [hhl, show 8 + (A.length + p) - 8 = A.length + p by omega]
    rw [List.getElem_append_right (by omega)]
    simp only [show A.length + p - A.length = p by omega]
    rw [List.getElem_append_left h6])
  refine ⟨j, (setB Cs[j]).set p y ++ R, ?_, torn_bad (by omega) h6 hyp (hb _ (List.getElem_mem hjl)) (by rw [hT2]; simp only [List.length_append]; omega)⟩
  rw [hT2, hA, List.set_append_right _ _ (by omega), show 8 + (A.length + p) - (headB m).length = A.length + p by omega, List.set_append_right _ _ (by omega), show A.length + p - A.length = p by omega, List.set_append_left _ _ h6]
end Go.Proofs.YtkjgkjmaoebeoaaDoor
